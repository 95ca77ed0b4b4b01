import JvmDerived
import JvmDerived.Pilot.@@N@@Statement
import JvmDerived.Pilot.@@N@@Code
set_option linter.unusedVariables false
set_option linter.unusedSimpArgs false
namespace Jvm.RoadKit
open Sem ClassFile Op Lib Jvm.Stand Jvm.Free Jvm.LawKit
section OwnKit
variable {p : Program} {l : Launch} {e : Env} {R : Room} {s : State} {m : MethodId} {args : Array Value} {below : List Frame} {meth : Method} {c : Code} {T : State} {locs : List Loc} {cells slots : Nat}
def EndsQ (tb : Tables) (e : Env) (below : List Frame) (s : State) (Qv : Option Value → Heap → List Loc → Prop) (rc rs : Nat) (st : State) : Prop :=
  ∃ s₂ o, Steps tb e below st s₂ ∧ s₂.status = .running ∧ Ended s₂ below o ∧ ∃ v L, o = .returned v ∧ Qv v s₂.heap L ∧ FrameEnd s o s₂ L rc rs
theorem EndsQ.go {tb : Tables} {Qv : Option Value → Heap → List Loc → Prop} {rc rs : Nat} {a b : State} (k : ∀ t, Steps tb e below b t → Steps tb e below a t) (h : EndsQ tb e below s Qv rc rs b) : EndsQ tb e below s Qv rc rs a := by
  obtain ⟨s₂, o, h1, h2⟩ := h
  exact ⟨s₂, o, k _ h1, h2⟩
theorem EndsQ.out (X : Stand p l e R s m args below meth c T locs cells slots) (hlk : meth.locks = false) {Qv : Option Value → Heap → List Loc → Prop} {rc rs : Nat} {v : Option Value} {st : State} (hv : meth.sig.returnType = none → v = none)
    (hs : ∀ fs, (∀ (f : JFrame) (acts : List Action), f.method = m → f.locked = none → f.entered = [] → (doReturn e (T.setTop f) acts v).1 = T.setFrames fs) → Steps p.tables e below st (T.setFrames fs))
    (h1 : cells ≤ rc) (h2 : slots ≤ rs) (hq : Qv v T.heap locs) : EndsQ p.tables e below s Qv rc rs st := by
  obtain ⟨fs, hr, hrun, hended, hW, hsame⟩ := X.leave (v := v) hv hlk
  exact ⟨_, _, hs fs hr, hrun, hended, _, _, rfl, hq, ⟨_, rfl⟩, hW, hsame.mono h1 h2⟩
theorem EndsQ.retI (X : Stand p l e R s m args below meth c T locs cells slots) (hx : p.tables.exec = Jvm.exec) (hlk : meth.locks = false) {Qv : Option Value → Heap → List Loc → Prop} {rc rs pc : Nat} {Ls : Array Slot} {z : Int32} {rest : List Value} (hret : meth.sig.returnType = some .int) (hd : decode c.code pc = .ok (.ireturn, 1))
    (h1 : cells ≤ rc) (h2 : slots ≤ rs) (hq : Qv (some (.int z)) T.heap locs) : EndsQ p.tables e below s Qv rc rs (T.setTop (mkF m pc Ls (.int z :: rest))) := by
  refine EndsQ.out X hlk (v := some (.int z)) (fun h => by rw [hret] at h; cases h) (fun fs hr => ?_) h1 h2 hq
  exact retOut X hx hret rfl (Or.inl ⟨rfl, Or.inl rfl, z, rfl⟩) hd hr
theorem EndsQ.retJ (X : Stand p l e R s m args below meth c T locs cells slots) (hx : p.tables.exec = Jvm.exec) (hlk : meth.locks = false) {Qv : Option Value → Heap → List Loc → Prop} {rc rs pc : Nat} {Ls : Array Slot} {z : Int64} {rest : List Value} (hret : meth.sig.returnType = some .long) (hd : decode c.code pc = .ok (.lreturn, 1))
    (h1 : cells ≤ rc) (h2 : slots ≤ rs) (hq : Qv (some (.long z)) T.heap locs) : EndsQ p.tables e below s Qv rc rs (T.setTop (mkF m pc Ls (.long z :: rest))) := by
  refine EndsQ.out X hlk (v := some (.long z)) (fun h => by rw [hret] at h; cases h) (fun fs hr => ?_) h1 h2 hq
  exact retOut X hx hret rfl (Or.inr (Or.inl ⟨rfl, rfl, z, rfl⟩)) hd hr
theorem EndsQ.retA (X : Stand p l e R s m args below meth c T locs cells slots) (hx : p.tables.exec = Jvm.exec) (hlk : meth.locks = false) {Qv : Option Value → Heap → List Loc → Prop} {rc rs pc : Nat} {Ls : Array Slot} {w : Value} {t : FieldType} {rest : List Value} (hret : meth.sig.returnType = some t) (ht : t.isReference = true) (hw : w.isRef = true) (hn : narrow t w = w) (hd : decode c.code pc = .ok (.areturn, 1))
    (h1 : cells ≤ rc) (h2 : slots ≤ rs) (hq : Qv (some w) T.heap locs) : EndsQ p.tables e below s Qv rc rs (T.setTop (mkF m pc Ls (w :: rest))) := by
  refine EndsQ.out X hlk (v := some w) (fun h => by rw [hret] at h; cases h) (fun fs hr => ?_) h1 h2 hq
  exact retOut X hx hret hn (Or.inr (Or.inr (Or.inr (Or.inr ⟨rfl, ht, hw⟩)))) hd hr
theorem EndsQ.retN (X : Stand p l e R s m args below meth c T locs cells slots) (hx : p.tables.exec = Jvm.exec) (hlk : meth.locks = false) {Qv : Option Value → Heap → List Loc → Prop} {rc rs pc : Nat} {Ls : Array Slot} {z : Int32} {t : FieldType} {rest : List Value} (hret : meth.sig.returnType = some t) (ht : t = .boolean ∨ t = .byte ∨ t = .char ∨ t = .short) (hd : decode c.code pc = .ok (.ireturn, 1))
    (h1 : cells ≤ rc) (h2 : slots ≤ rs) (hq : Qv (some (.int (nar t z))) T.heap locs) : EndsQ p.tables e below s Qv rc rs (T.setTop (mkF m pc Ls (.int z :: rest))) := by
  refine EndsQ.out X hlk (v := some (.int (nar t z))) (fun h => by rw [hret] at h; cases h) (fun fs hr => ?_) h1 h2 hq
  exact Jvm.RoadKit.retN X hx hret ht hd hr
theorem EndsQ.retV (X : Stand p l e R s m args below meth c T locs cells slots) (hx : p.tables.exec = Jvm.exec) (hlk : meth.locks = false) {Qv : Option Value → Heap → List Loc → Prop} {rc rs pc : Nat} {Ls : Array Slot} (hret : meth.sig.returnType = none) (hd : decode c.code pc = .ok (.return_, 1))
    (h1 : cells ≤ rc) (h2 : slots ≤ rs) (hq : Qv none T.heap locs) : EndsQ p.tables e below s Qv rc rs (T.setTop (mkF m pc Ls [])) := by
  refine EndsQ.out X hlk (v := none) (fun _ => rfl) (fun fs hr => ?_) h1 h2 hq
  exact X.returnOut hx hret hd hr
theorem EndsQ.retD (X : Stand p l e R s m args below meth c T locs cells slots) (hx : p.tables.exec = Jvm.exec) (hlk : meth.locks = false) {Qv : Option Value → Heap → List Loc → Prop} {rc rs pc : Nat} {Ls : Array Slot} {z : UInt64} {rest : List Value} (hret : meth.sig.returnType = some .double) (hd : decode c.code pc = .ok (.dreturn, 1))
    (h1 : cells ≤ rc) (h2 : slots ≤ rs) (hq : Qv (some (.double z)) T.heap locs) : EndsQ p.tables e below s Qv rc rs (T.setTop (mkF m pc Ls (.double z :: rest))) := by
  refine EndsQ.out X hlk (v := some (.double z)) (fun h => by rw [hret] at h; cases h) (fun fs hr => ?_) h1 h2 hq
  exact retOut X hx hret rfl (Or.inr (Or.inr (Or.inl ⟨rfl, rfl, z, rfl⟩))) hd hr
end OwnKit
end Jvm.RoadKit
namespace Jvm.RoadKit
open Sem ClassFile Op Lib Jvm.Stand Jvm.Free Jvm.LawKit
section OwnKitW
variable {p : Program} {l : Launch} {e : Env} {R : Room} {s : State} {vm1 : Vm} {kn : Nat} {m : MethodId} {args : Array Value} {below : List Frame} {meth : Method} {c : Code} {T : State} {locs : List Loc} {cells slots : Nat}
def EndsW (tb : Tables) (e : Env) (below : List Frame) (s : State) (Qv : Option Value → Heap → List Loc → Prop) (rc rs : Nat) (st : State) : Prop :=
  ∃ s₂ o, Steps tb e below st s₂ ∧ s₂.status = .running ∧ Ended s₂ below o ∧ ∃ v L, o = .returned v ∧ Qv v s₂.heap L ∧ ReturnedEndW s o s₂ L rc rs
theorem EndsW.go {tb : Tables} {Qv : Option Value → Heap → List Loc → Prop} {rc rs : Nat} {a b : State} (k : ∀ t, Steps tb e below b t → Steps tb e below a t) (h : EndsW tb e below s Qv rc rs b) : EndsW tb e below s Qv rc rs a := by
  obtain ⟨s₂, o, h1, h2⟩ := h
  exact ⟨s₂, o, k _ h1, h2⟩
theorem EndsW.out (X : Stand p l e R (s.setVm vm1) m args below meth c T locs cells slots) (hS : s.Since vm1 kn) (hk : kn ≤ T.heap.size) (hlk : meth.locks = false) {Qv : Option Value → Heap → List Loc → Prop} {rc rs : Nat} {v : Option Value} {st : State} (hv : meth.sig.returnType = none → v = none)
    (hs : ∀ fs, (∀ (f : JFrame) (acts : List Action), f.method = m → f.locked = none → f.entered = [] → (doReturn e (T.setTop f) acts v).1 = T.setFrames fs) → Steps p.tables e below st (T.setFrames fs))
    (h1 : cells ≤ rc) (h2 : slots ≤ rs) (hq : Qv v T.heap locs) : EndsW p.tables e below s Qv rc rs st := by
  obtain ⟨fs, hr, hrun, hended, ⟨w1, w2, w3, w4⟩⟩ := X.leaveW hS hk (v := v) hv hlk
  exact ⟨_, _, hs fs hr, hrun, hended, _, _, rfl, hq, w1, w2, w3, w4.mono h1 h2⟩
theorem EndsW.retI (X : Stand p l e R (s.setVm vm1) m args below meth c T locs cells slots) (hS : s.Since vm1 kn) (hk : kn ≤ T.heap.size) (hx : p.tables.exec = Jvm.exec) (hlk : meth.locks = false) {Qv : Option Value → Heap → List Loc → Prop} {rc rs pc : Nat} {Ls : Array Slot} {z : Int32} {rest : List Value} (hret : meth.sig.returnType = some .int) (hd : decode c.code pc = .ok (.ireturn, 1))
    (h1 : cells ≤ rc) (h2 : slots ≤ rs) (hq : Qv (some (.int z)) T.heap locs) : EndsW p.tables e below s Qv rc rs (T.setTop (mkF m pc Ls (.int z :: rest))) := by
  refine EndsW.out X hS hk hlk (v := some (.int z)) (fun h => by rw [hret] at h; cases h) (fun fs hr => ?_) h1 h2 hq
  exact retOut X hx hret rfl (Or.inl ⟨rfl, Or.inl rfl, z, rfl⟩) hd hr
theorem EndsW.retA (X : Stand p l e R (s.setVm vm1) m args below meth c T locs cells slots) (hS : s.Since vm1 kn) (hk : kn ≤ T.heap.size) (hx : p.tables.exec = Jvm.exec) (hlk : meth.locks = false) {Qv : Option Value → Heap → List Loc → Prop} {rc rs pc : Nat} {Ls : Array Slot} {w : Value} {t : FieldType} {rest : List Value} (hret : meth.sig.returnType = some t) (ht : t.isReference = true) (hw : w.isRef = true) (hn : narrow t w = w) (hd : decode c.code pc = .ok (.areturn, 1))
    (h1 : cells ≤ rc) (h2 : slots ≤ rs) (hq : Qv (some w) T.heap locs) : EndsW p.tables e below s Qv rc rs (T.setTop (mkF m pc Ls (w :: rest))) := by
  refine EndsW.out X hS hk hlk (v := some w) (fun h => by rw [hret] at h; cases h) (fun fs hr => ?_) h1 h2 hq
  exact retOut X hx hret hn (Or.inr (Or.inr (Or.inr (Or.inr ⟨rfl, ht, hw⟩)))) hd hr
theorem EndsW.retN (X : Stand p l e R (s.setVm vm1) m args below meth c T locs cells slots) (hS : s.Since vm1 kn) (hk : kn ≤ T.heap.size) (hx : p.tables.exec = Jvm.exec) (hlk : meth.locks = false) {Qv : Option Value → Heap → List Loc → Prop} {rc rs pc : Nat} {Ls : Array Slot} {z : Int32} {t : FieldType} {rest : List Value} (hret : meth.sig.returnType = some t) (ht : t = .boolean ∨ t = .byte ∨ t = .char ∨ t = .short) (hd : decode c.code pc = .ok (.ireturn, 1))
    (h1 : cells ≤ rc) (h2 : slots ≤ rs) (hq : Qv (some (.int (nar t z))) T.heap locs) : EndsW p.tables e below s Qv rc rs (T.setTop (mkF m pc Ls (.int z :: rest))) := by
  refine EndsW.out X hS hk hlk (v := some (.int (nar t z))) (fun h => by rw [hret] at h; cases h) (fun fs hr => ?_) h1 h2 hq
  exact Jvm.RoadKit.retN X hx hret ht hd hr
theorem EndsW.retV (X : Stand p l e R (s.setVm vm1) m args below meth c T locs cells slots) (hS : s.Since vm1 kn) (hk : kn ≤ T.heap.size) (hx : p.tables.exec = Jvm.exec) (hlk : meth.locks = false) {Qv : Option Value → Heap → List Loc → Prop} {rc rs pc : Nat} {Ls : Array Slot} (hret : meth.sig.returnType = none) (hd : decode c.code pc = .ok (.return_, 1))
    (h1 : cells ≤ rc) (h2 : slots ≤ rs) (hq : Qv none T.heap locs) : EndsW p.tables e below s Qv rc rs (T.setTop (mkF m pc Ls [])) := by
  refine EndsW.out X hS hk hlk (v := none) (fun _ => rfl) (fun fs hr => ?_) h1 h2 hq
  exact X.returnOut hx hret hd hr
end OwnKitW
end Jvm.RoadKit
namespace Jvm.RoadKit
open Sem ClassFile Op Lib Jvm.Stand Jvm.Free Jvm.LawKit
/-- an array by a function: its first n places hold f 0, f 1, .. -/
def Arf (Z : State) (h : Heap) (a : Addr) (k : ClassId) (ty : FieldType) (n : Int32) (f : Nat → Value) : Prop := ∃ c : Cell, Arr Z h a c ty ∧ c.cls = k ∧ c.slots.size = n.toNatClampNeg ∧ ¬ n < 0 ∧ (∀ i, i < c.slots.size → c.slots[i]? = some (f i)) ∧ ∀ i, i < c.slots.size → fits ty (f i) = true
def own_upd (f : Nat → Value) (i : Nat) (v : Value) : Nat → Value := fun j => if j = i then v else f j
section OwnArf
variable {Z : State} {h h' : Heap} {a b : Addr} {k : ClassId} {ty : FieldType} {n z j : Int32} {f g : Nat → Value} {vs : List Value} {dv v : Value} {sl : Nat} {ws : List Addr}
theorem Arv.arf (F : Arv Z h a k ty n vs dv) : Arf Z h a k ty n (fun i => vs.getD i dv) := F
theorem Arf.lt (F : Arf Z h a k ty n f) : a < h.size := by obtain ⟨c, A, -⟩ := F; exact A.lt
theorem Arf.ext (F : Arf Z h a k ty n f) (E : Ext h h') : Arf Z h' a k ty n f := by obtain ⟨c, A, r⟩ := F; exact ⟨c, A.ext E, r⟩
theorem Arf.other (F : Arf Z h b k ty n f) (W : Wr h h' a sl v) (q : b ≠ a) : Arf Z h' b k ty n f := by obtain ⟨c, A, r⟩ := F; exact ⟨c, A.other W q, r⟩
theorem Arf.keep (F : Arf Z h a k ty n f) (K : Keep h h' ws) (q : a ∉ ws) : Arf Z h' a k ty n f := by obtain ⟨c, A, r⟩ := F; exact ⟨c, ⟨K.2.1 a c A.1 q, A.2⟩, r⟩
theorem Arf.new (A : Arr Z h a (newA k ty z) ty) (q : ¬ z < 0) : Arf Z h a k ty z (fun _ => defaultValue ty) := by
  have F := Arv.new A q
  obtain ⟨c, A', r1, r2, r3, H, G⟩ := F
  exact ⟨c, A', r1, r2, r3, fun i hi => by have := H i hi; simpa using this, fun i hi => by have := G i hi; simpa using this⟩
theorem Arf.congr (F : Arf Z h a k ty n f) (q : ∀ i, i < n.toNatClampNeg → f i = g i) : Arf Z h a k ty n g := by
  obtain ⟨c, A, r1, r2, r3, H, G⟩ := F
  exact ⟨c, A, r1, r2, r3, fun i hi => by rw [← q i (r2 ▸ hi)]; exact H i hi, fun i hi => by rw [← q i (r2 ▸ hi)]; exact G i hi⟩
theorem Arf.set {c : Cell} (A : Arr Z h a c ty) (q1 : c.cls = k) (S : c.slots.size = n.toNatClampNeg) (q3 : ¬ n < 0) (H : ∀ i, i < c.slots.size → c.slots[i]? = some (f i)) (G : ∀ i, i < c.slots.size → fits ty (f i) = true) (hv : fits ty v = true) (W : Wr h h' a sl v) : Arf Z h' a k ty n (own_upd f sl v) := by
  refine ⟨c.setSlot sl v, A.same W, q1, by rw [← S]; exact sz_set _ _ _, q3, fun i hi => ?_, fun i hi => ?_⟩
  · rw [sz_set] at hi
    unfold own_upd
    by_cases e : i = sl
    · subst e; rw [if_pos rfl]; simp [Cell.setSlot, hi]
    · rw [if_neg e]; simp only [Cell.setSlot]; rw [Array.getElem?_setIfInBounds_ne (Ne.symm e)]; exact H i hi
  · rw [sz_set] at hi
    unfold own_upd
    by_cases e : i = sl
    · rw [if_pos e]; exact hv
    · rw [if_neg e]; exact G i hi
end OwnArf
section OwnH
variable {p : Program} {l : Launch} {e : Env} {R : Room} {s : State} {args : Array Value} {below : List Frame} {Z : State} {a0 : Array Value} {h : Heap} {vm0 : Vm} {EL : List (String × Nat)}
/-- a callee that may intern and whose premise holds the booked constants -/
theorem own_backSH {y : MethodName} {bytes : ByteArray} {maxL : Nat} {ret : Option FieldType} {rm : Room} {len W : Nat} {as' : Array Value} {Q : Option Value → Heap → List Loc → Prop}
    (hM : MetFree l y (head1 [Cond.code y bytes maxL ret] rm) (fun a U => a = as' ∧ Z.Warmed39 U.vm ∧ U.heap = h ∧ CHv Z EL U.vm h) (fun _ _ _ _ _ => True) (fun _ U o U' => ∃ v L, o = .returned v ∧ Q v U'.heap L ∧ ReturnedEndW U o U' L rm.cells rm.slots))
    (hZ : Z.Warmed39 vm0) (wc : (Cond.code y bytes maxL ret).before a0 Z = true) (wz : (Cond.initialized y.cls).before a0 Z = true) (hf : rm.frames + 1 ≤ R.frames) (hl : W + (maxL + 11) + rm.locals ≤ R.locals) (hEL : EW Z a0 EL) (H : CHv Z EL vm0 h) :
    BackS l R p e below (s.setVm vm0) args y len W (fun A a => a = as' ∧ A.U.heap = h ∧ A.cells + rm.cells ≤ R.cells ∧ A.slots + rm.slots ≤ R.slots)
      (fun A _ v B => ∃ L, Q v B.U.heap L ∧ B.locs = A.locs ++ L ∧ B.cells = A.cells + rm.cells ∧ B.slots = A.slots + rm.slots) := by
  refine BackS.of_freeW (bytes := bytes) (maxL := maxL) (ret := ret) (E := fun _ _ o t L k n => k = rm.cells ∧ n = rm.slots ∧ ∃ v, o = .returned v ∧ Q v t.heap L) hM hf hl ?_ ?_ ?_ ?_ ?_
  · intro m meth c A a Y hp
    have hU : Z.Warmed39 A.U.vm := wtrans (s := s.setVm vm0) hZ Y.warmed
    refine ⟨?_, mv hU wc, mv hU wz, hp.2.2.1, hp.2.2.2⟩
    show (Cond.and _ .tt).before a A.U = true
    rw [Cond.before_and, mv hU wc]
    rfl
  · intro m meth c A a g mk Y hp
    exact ⟨hp.1, wtrans (s := s.setVm vm0) hZ Y.warmed, hp.2.1, (CHv.at Y hZ hEL H).1⟩
  · intros
    trivial
  · rintro a first o t ⟨v, L, q1, q2, q3⟩
    exact ⟨L, _, _, q3, rfl, rfl, v, q1, q2⟩
  · rintro m meth c A a g mk v t L k n Y hp - - ⟨rfl, rfl, v', e3, e4⟩
    cases e3
    exact ⟨L, e4, rfl, rfl, rfl⟩
/-- an object of a class is no array -/
theorem own_exaNe {a b : Addr} {C : String} {k : ClassId} {ty : FieldType} {n : Int32} {f : Nat → Value} {N : Nat} (E : Exa Z h a C) (w : (Cond.instantiable C N).before a0 Z = true) (A : Arf Z h b k ty n f) : a ≠ b := fun q => by
  subst q
  obtain ⟨c, k1, g1, g2, g3, -⟩ := E
  obtain ⟨c2, ⟨r1, ⟨-, k2, r2, comp, r3⟩, -⟩, -⟩ := A
  cases g1.symm.trans r1
  obtain ⟨ic, ik, i1, i2, i3, -⟩ := Cond.instantiable_spec w
  cases i1.symm.trans g2
  cases i2.symm.trans g3
  cases i2.symm.trans r2
  rw [i3] at r3
  cases r3
end OwnH
end Jvm.RoadKit
namespace Jvm.Pilot.@@N@@
open Jvm Jvm.ClassFile Sem Op Lib Jvm.Free Jvm.Stand Jvm.LawKit Jvm.RoadKit Bundle Jvm.Pilot.@@N@@.Jvm.D
theorem own_w {a0 : Array Value} {Z : State} (hw : ∀ d ∈ tables_1, d.before a0 Z = true) (i : Nat) {d : Jvm.Cond} (h : tables_1[i]? = some d) : d.before a0 Z = true := hw _ (List.mem_of_getElem? h)

theorem own_sta_keep0 {Z : State} {h h' : Heap} {C n d : String} {v : Value} (F : Sta Z h C n d v) (K : Keep h h' []) : Sta Z h' C n d v := by
  obtain ⟨cf, i, k, f, st, cell, h1, h2, h3, h4, h5, h6, h7⟩ := F
  exact ⟨cf, i, k, f, st, cell, h1, h2, h3, h4, K.2.1 _ _ h5 nin0, h6, h7⟩
theorem own_sta_keep {Z : State} {h h' : Heap} {C n d D : String} {v : Value} {a : Addr} (F : Sta Z h C n d v) (K : Keep h h' [a]) (E : Exa Z h a D) : Sta Z h' C n d v := by
  obtain ⟨cf, i, k, f, st, cell, h1, h2, h3, h4, h5, h6, h7⟩ := F
  obtain ⟨c2, k2, g1, -, -, g4, -⟩ := E
  have q : st ≠ a := fun e => by
    subst e
    cases h5.symm.trans g1
    rw [h6] at g4
    cases g4
  exact ⟨cf, i, k, f, st, cell, h1, h2, h3, h4, K.2.1 _ _ h5 (ninS q nin0), h6, h7⟩
def own_lo (c : Int32) : Int32 := c.toInt8.toInt32
def own_hi (c : Int32) : Int32 := (c >>> ((8 : Int32) &&& 31)).toInt8.toInt32
def own_l1 (ch : Nat → Int32) (j : Nat) : Value := .int (own_lo (ch j))
def own_b16 (ch : Nat → Int32) (j : Nat) : Value := .int (if j % 2 = 0 then own_lo (ch (j / 2)) else own_hi (ch (j / 2)))
def own_dbl (n : Int32) : Int32 := n <<< ((1 : Int32) &&& 31)
def own_c16 (ch : Nat → Int32) : Prop := ∀ j, 0 ≤ (ch j).toInt ∧ (ch j).toInt < 65536
theorem own_inj (x y : Int32) (h : x.toInt = y.toInt) : x = y := Int32.toInt_inj.mp h
theorem own_lt (x y : Int32) : x < y ↔ x.toInt < y.toInt := Int32.lt_iff_toInt_lt
theorem own_cn (x : Int32) : x.toNatClampNeg = x.toInt.toNat := rfl
theorem own_bb (x : Int32) : x.toInt8.toInt32.toInt8.toInt32 = x.toInt8.toInt32 := own_inj _ _ (by
  have h1 := c_i2b x
  have h2 := c_i2b x.toInt8.toInt32
  omega)
theorem own_cc (x : Int32) (h : 0 ≤ x.toInt) (h' : x.toInt < 65536) : x.toUInt32.toUInt16.toUInt32.toInt32 = x := own_inj _ _ (by
  have h1 := c_i2c x
  omega)
theorem own_nc (x : Int32) (h : 0 ≤ x.toInt) (h' : x.toInt < 65536) : nar .char x = x := own_cc x h h'
theorem own_sh0 (x : Int32) : x >>> ((0 : Int32) &&& 31) = x := own_inj _ _ (by
  have h1 := c_ishr x 0 0 (by decide)
  rw [h1]; omega)
theorem own_sl0 (x : Int32) : x <<< ((0 : Int32) &&& 31) = x := own_inj _ _ (by
  have h1 := c_ishl x 0 0 (by decide)
  have h2 := rng32 x
  have h3 := rng32 (x <<< ((0 : Int32) &&& 31))
  omega)
theorem own_plo (c : Int32) : nar .byte ((c >>> ((0 : Int32) &&& 31)).toInt8.toInt32) = own_lo c := by rw [own_sh0]; exact own_bb c
theorem own_phi (c : Int32) : nar .byte ((c >>> ((8 : Int32) &&& 31)).toInt8.toInt32) = own_hi c := own_bb _
theorem own_dblI (n : Int32) (h : 0 ≤ n.toInt) (h' : n.toInt < 1073741824) : (own_dbl n).toInt = 2 * n.toInt := by
  have h1 := c_ishl n 1 1 (by decide)
  have h3 := rng32 (own_dbl n)
  unfold own_dbl at *
  omega
theorem own_half (n : Int32) (h : 0 ≤ n.toInt) (h' : n.toInt < 1073741824) : own_dbl n >>> ((1 : Int32) &&& 31) = n := own_inj _ _ (by
  have h1 := c_ishr (own_dbl n) 1 1 (by decide)
  have h2 := own_dblI n h h'
  rw [h1, h2]; omega)
theorem own_loI (c : Int32) (h : 0 ≤ c.toInt) : (own_lo c &&& (255 : Int32)).toInt = c.toInt % 256 := by
  have h1 := c_mask (own_lo c) 255 8 (by decide) rfl
  have h2 := c_i2b c
  unfold own_lo at *
  rw [h1]; omega
theorem own_hiI (c : Int32) (h : 0 ≤ c.toInt) (h' : c.toInt < 65536) : (own_hi c &&& (255 : Int32)).toInt = c.toInt / 256 := by
  have h1 := c_mask (own_hi c) 255 8 (by decide) rfl
  have h2 := c_i2b (c >>> ((8 : Int32) &&& 31))
  have h3 := c_ishr c 8 8 (by decide)
  unfold own_hi at *
  rw [h1]; omega
theorem own_l1c (c : Int32) (h : 0 ≤ c.toInt) (h' : c.toInt < 256) : nar .char ((own_lo c &&& (255 : Int32)).toUInt32.toUInt16.toUInt32.toInt32) = c := by
  have h1 := own_loI c h
  have e : own_lo c &&& (255 : Int32) = c := own_inj _ _ (by omega)
  rw [e, own_cc c h (by omega)]
  exact own_nc c h (by omega)
theorem own_gch (c : Int32) (h : 0 ≤ c.toInt) (h' : c.toInt < 65536) : nar .char ((((own_lo c &&& (255 : Int32)) <<< ((0 : Int32) &&& 31)) ||| ((own_hi c &&& (255 : Int32)) <<< ((8 : Int32) &&& 31))).toUInt32.toUInt16.toUInt32.toInt32) = c := by
  rw [own_sl0, Int32.or_comm]
  have h1 := own_loI c h
  have h2 := own_hiI c h h'
  have h3 := c_ishl (own_hi c &&& (255 : Int32)) 8 8 (by decide)
  have h4 := rng32 ((own_hi c &&& (255 : Int32)) <<< ((8 : Int32) &&& 31))
  have h5 : ((own_hi c &&& (255 : Int32)) <<< ((8 : Int32) &&& 31)).toInt = (c.toInt / 256) * 256 := by omega
  have h6 := c_or ((own_hi c &&& (255 : Int32)) <<< ((8 : Int32) &&& 31)) (own_lo c &&& (255 : Int32)) 8 (by decide) 256 rfl (by omega) (by omega) (by omega)
  have h7 := rng32 (((own_hi c &&& (255 : Int32)) <<< ((8 : Int32) &&& 31)) ||| (own_lo c &&& (255 : Int32)))
  have e : (((own_hi c &&& (255 : Int32)) <<< ((8 : Int32) &&& 31)) ||| (own_lo c &&& (255 : Int32))) = c := own_inj _ _ (by omega)
  rw [e, own_cc c h h']
  exact own_nc c h h'
/-- the two places of char i in a byte array of 2n -/
theorem own_at0 (i n : Int32) (h : ¬ i < 0) (h' : i < n) (hn : n.toInt < 1073741824) : ¬ own_dbl i < 0 ∧ own_dbl i < own_dbl n := by
  rw [own_lt] at h h' ⊢
  rw [own_lt]
  have z : (0 : Int32).toInt = 0 := rfl
  have a := own_dblI i (by omega) (by omega)
  have b := own_dblI n (by omega) (by omega)
  omega
theorem own_suc (i n : Int32) (h : i < n) : (i + Int32.ofInt 1).toInt = i.toInt + 1 := by
  rw [own_lt] at h
  have h1 := c_iadd i (Int32.ofInt 1)
  have h2 := rng32 i
  have h3 := rng32 n
  have h4 := rng32 (i + Int32.ofInt 1)
  have z : (Int32.ofInt 1).toInt = 1 := rfl
  omega
theorem own_at1 (i n : Int32) (h : ¬ i < 0) (h' : i < n) (hn : n.toInt < 1073741824) : ¬ (own_dbl i + Int32.ofInt 1) < 0 ∧ (own_dbl i + Int32.ofInt 1) < own_dbl n := by
  have q := own_at0 i n h h' hn
  have s := own_suc _ _ q.2
  rw [own_lt] at h h' ⊢
  rw [own_lt]
  have z : (0 : Int32).toInt = 0 := rfl
  have a := own_dblI i (by omega) (by omega)
  have b := own_dblI n (by omega) (by omega)
  omega
theorem own_p0 (i n : Int32) (h : ¬ i < 0) (h' : i < n) (hn : n.toInt < 1073741824) : (own_dbl i).toNatClampNeg = 2 * i.toNatClampNeg := by
  rw [own_lt] at h h'
  have z : (0 : Int32).toInt = 0 := rfl
  have a := own_dblI i (by omega) (by omega)
  rw [own_cn, own_cn]; omega
theorem own_p1 (i n : Int32) (h : ¬ i < 0) (h' : i < n) (hn : n.toInt < 1073741824) : (own_dbl i + Int32.ofInt 1).toNatClampNeg = 2 * i.toNatClampNeg + 1 := by
  have q := own_at0 i n h h' hn
  have s := own_suc _ _ q.2
  rw [own_lt] at h h'
  have z : (0 : Int32).toInt = 0 := rfl
  have a := own_dblI i (by omega) (by omega)
  rw [own_cn, own_cn]; omega
theorem own_b0 (ch : Nat → Int32) (i n : Int32) (h : ¬ i < 0) (h' : i < n) (hn : n.toInt < 1073741824) : own_b16 ch (own_dbl i).toNatClampNeg = .int (own_lo (ch i.toNatClampNeg)) := by
  rw [own_p0 i n h h' hn]; unfold own_b16; rw [if_pos (by omega), show 2 * i.toNatClampNeg / 2 = i.toNatClampNeg by omega]
theorem own_b1 (ch : Nat → Int32) (i n : Int32) (h : ¬ i < 0) (h' : i < n) (hn : n.toInt < 1073741824) : own_b16 ch (own_dbl i + Int32.ofInt 1).toNatClampNeg = .int (own_hi (ch i.toNatClampNeg)) := by
  rw [own_p1 i n h h' hn]; unfold own_b16; rw [if_neg (by omega), show (2 * i.toNatClampNeg + 1) / 2 = i.toNatClampNeg by omega]
def own_isl (d : Int32) : Int32 := if d = (0 : Int32) then 1 else 0
def own_cv (ch : Nat → Int32) (j : Nat) : Value := .int (ch j)
/-- the JDK's statics that the String methods read -/
def own_St (Z : State) (h : Heap) (cs : Int32) (fv : Value) : Prop := Sta Z h "java/lang/String" "COMPACT_STRINGS" "Z" (.int cs) ∧ ¬ cs = (0 : Int32) ∧ Sta Z h "jdk/internal/util/Preconditions" "SIOOBE_FORMATTER" "Ljava/util/function/BiFunction;" fv ∧ fv.isRef = true ∧
  Sta Z h "java/lang/StringUTF16" "$assertionsDisabled" "Z" (.int (1 : Int32)) ∧ Sta Z h "java/lang/StringUTF16" "HI_BYTE_SHIFT" "I" (.int (0 : Int32)) ∧ Sta Z h "java/lang/StringUTF16" "LO_BYTE_SHIFT" "I" (.int (8 : Int32))
/-- a String of the n chars ch 0, ch 1, .. -/
def own_Str (Z : State) (h : Heap) (a : Addr) (n : Int32) (ch : Nat → Int32) : Prop := Exa Z h a "java/lang/String" ∧ ∃ (b : Addr) (k : ClassId), Fld Z h a "java/lang/String" "value" "[B" (.ref b) ∧
  ((Fld Z h a "java/lang/String" "coder" "B" (.int (0 : Int32)) ∧ Arf Z h b k .byte n (own_l1 ch) ∧ ∀ j, j < n.toNatClampNeg → (ch j).toInt < 256) ∨ (Fld Z h a "java/lang/String" "coder" "B" (.int (1 : Int32)) ∧ Arf Z h b k .byte (own_dbl n) (own_b16 ch)))
theorem own_pos (i n : Int32) (h : ¬ i < 0) (h' : i < n) : i.toNatClampNeg < n.toNatClampNeg := by
  rw [own_lt] at h h'
  have z : (0 : Int32).toInt = 0 := rfl
  rw [own_cn, own_cn]; omega
theorem own_idbl (n : Int32) (h : ¬ n < 0) (h' : n.toInt < 1073741824) : own_isl (own_dbl n) = own_isl n := by
  rw [own_lt] at h
  have z : (0 : Int32).toInt = 0 := rfl
  have a := own_dblI n (by omega) h'
  unfold own_isl
  by_cases q : n = 0
  · have e : own_dbl n = 0 := own_inj _ _ (by rw [a, q]; rfl)
    rw [if_pos e, if_pos q]
  · have e : ¬ own_dbl n = 0 := fun y => q (own_inj _ _ (by rw [y] at a; omega))
    rw [if_neg e, if_neg q]
theorem own_sh1 (n : Int32) : n >>> ((0 : Int32) &&& 31) = n := own_sh0 n
theorem own_nn (n : Int32) (h : ¬ n < 0) : 0 ≤ n.toInt := by rw [own_lt] at h; exact Int.not_lt.mp h
theorem own_dneg (n : Int32) (h : ¬ n < 0) (h' : n.toInt < 1073741824) : ¬ own_dbl n < 0 := by
  rw [own_lt]
  have z : (0 : Int32).toInt = 0 := rfl
  have a := own_dblI n (own_nn n h) h'
  have b := own_nn n h
  omega
theorem own_dcap (n : Int32) (M : Nat) (h : ¬ n < 0) (h' : n.toInt ≤ M) (hM : M < 1073741824) : (own_dbl n).toNatClampNeg ≤ 2 * M := by
  have a := own_dblI n (own_nn n h) (by omega)
  rw [own_cn]; omega
theorem own_ncap (n : Int32) (M : Nat) (h' : n.toInt ≤ M) : n.toNatClampNeg ≤ M := by rw [own_cn]; omega
theorem own_small (n : Int32) (M : Nat) (h' : n.toInt ≤ M) (hM : M < 1073741823) : n < (1073741823 : Int32) := by
  rw [own_lt]
  have z : (1073741823 : Int32).toInt = 1073741823 := rfl
  omega
/-- one more char written -/
theorem own_step16 (ch : Nat → Int32) (f : Nat → Value) (i n : Int32) (h : ¬ i < 0) (h' : i < n) (hn : n.toInt < 1073741824) (hf : ∀ j, j < 2 * i.toNatClampNeg → f j = own_b16 ch j) :
    ∀ j, j < 2 * (i + Int32.ofInt 1).toNatClampNeg → own_upd (own_upd f (own_dbl i).toNatClampNeg (.int (own_lo (ch i.toNatClampNeg)))) (own_dbl i + Int32.ofInt 1).toNatClampNeg (.int (own_hi (ch i.toNatClampNeg))) j = own_b16 ch j := by
  intro j hj
  have s := own_suc i n h'
  have z := own_nn i h
  have e1 : (i + Int32.ofInt 1).toNatClampNeg = i.toNatClampNeg + 1 := by rw [own_cn, own_cn]; omega
  rw [e1] at hj
  rw [own_p0 i n h h' hn, own_p1 i n h h' hn]
  unfold own_upd
  by_cases q : j = 2 * i.toNatClampNeg + 1
  · subst q
    rw [if_pos rfl]; unfold own_b16; rw [if_neg (by omega), show (2 * i.toNatClampNeg + 1) / 2 = i.toNatClampNeg by omega]
  · rw [if_neg q]
    by_cases r : j = 2 * i.toNatClampNeg
    · subst r
      rw [if_pos rfl]; unfold own_b16; rw [if_pos (by omega), show (2 * i.toNatClampNeg) / 2 = i.toNatClampNeg by omega]
    · rw [if_neg r]; exact hf j (by omega)
theorem own_step8 (ch : Nat → Int32) (f : Nat → Value) (i n : Int32) (h : ¬ i < 0) (h' : i < n) (hl : (ch i.toNatClampNeg).toInt < 256) (hf : ∀ j, j < i.toNatClampNeg → f j = own_l1 ch j ∧ (ch j).toInt < 256) :
    ∀ j, j < (i + Int32.ofInt 1).toNatClampNeg → own_upd f i.toNatClampNeg (.int (own_lo (ch i.toNatClampNeg))) j = own_l1 ch j ∧ (ch j).toInt < 256 := by
  intro j hj
  have s := own_suc i n h'
  have z := own_nn i h
  have e1 : (i + Int32.ofInt 1).toNatClampNeg = i.toNatClampNeg + 1 := by rw [own_cn, own_cn]; omega
  rw [e1] at hj
  unfold own_upd
  by_cases r : j = i.toNatClampNeg
  · subst r
    rw [if_pos rfl]; exact ⟨rfl, hl⟩
  · rw [if_neg r]; exact hf j (by omega)
theorem own_sucn (i n : Int32) (h : ¬ i < 0) (h' : i < n) : ¬ (i + Int32.ofInt 1) < 0 := by
  have s := own_suc i n h'
  have z := own_nn i h
  rw [own_lt]
  have z : (0 : Int32).toInt = 0 := rfl
  omega
theorem own_fuS (i n : Int32) (fu : Nat) (h' : i < n) (hf : i.toInt + (fu + 1 : Nat) = n.toInt) : (i + Int32.ofInt 1).toInt + fu = n.toInt := by
  have s := own_suc i n h'
  omega
theorem own_fuL (i n : Int32) (fu : Nat) (hf : i.toInt + (fu + 1 : Nat) = n.toInt) : i < n := by rw [own_lt]; omega
theorem own_fuZ (i n : Int32) (hf : i.toInt + (0 : Nat) = n.toInt) : ¬ i < n := by rw [own_lt]; omega
theorem own_fuE (i n : Int32) (hf : i.toInt + (0 : Nat) = n.toInt) : i = n := own_inj _ _ (by omega)
theorem own_fu0 (n : Int32) (h : ¬ n < 0) : (0 : Int32).toInt + n.toInt.toNat = n.toInt := by
  have z := own_nn n h
  have z0 : (0 : Int32).toInt = 0 := rfl
  omega
theorem own_le255 (c : Int32) (h : ¬ (255 : Int32) < c) : c.toInt < 256 := by
  rw [own_lt] at h
  have z : (255 : Int32).toInt = 255 := rfl
  omega
theorem own_gt255 (c : Int32) (h : 255 < c.toInt) : (255 : Int32) < c := by
  rw [own_lt]
  exact h
theorem own_gt255' (c : Int32) (h : (255 : Int32) < c) : 255 < c.toInt := by
  rw [own_lt] at h
  exact h
theorem own_cfa0 (n : Int32) : nar .byte (((n - n).toUInt32 >>> ((31 : Int32) &&& 31).toUInt32).toInt32.toInt8.toInt32) = (0 : Int32) := by
  rw [show n - n = (0 : Int32) from own_inj _ _ (by have h1 := c_isub n n; have h2 := rng32 (n - n); have z : (0 : Int32).toInt = 0 := rfl; omega)]; decide
theorem own_cfa1 (n : Int32) (h : ¬ n < 0) (h0 : ¬ n = 0) (h' : n.toInt < 1073741824) : nar .byte (((n - own_dbl n).toUInt32 >>> ((31 : Int32) &&& 31).toUInt32).toInt32.toInt8.toInt32) = (1 : Int32) := by
  have a := own_dblI n (own_nn n h) h'
  have b := own_nn n h
  have c := c_isub n (own_dbl n)
  have d := rng32 (n - own_dbl n)
  have e := c_iushr (n - own_dbl n) 31 31 (by decide) (by decide)
  have z : (0 : Int32).toInt = 0 := rfl
  have n0 : ¬ n.toInt = 0 := fun q => h0 (own_inj _ _ (q.trans z.symm))
  have g : ((n - own_dbl n).toUInt32 >>> ((31 : Int32) &&& 31).toUInt32).toInt32 = 1 := own_inj _ _ (by
    rw [e]
    have o : (1 : Int32).toInt = 1 := rfl
    omega)
  rw [g]; decide
theorem own_nb (x : Int32) (h : x = 0 ∨ x = 1) : nar .byte x = x := by rcases h with rfl | rfl <;> decide
abbrev own_one (o : Slot) : Prop := o = .unset ∨ ∃ w, o = .val w ∧ w.category = 1
theorem own_sta_keepG {Z : State} {h h' : Heap} {C n d : String} {v : Value} {a : Addr} {k : ClassId} {ty : FieldType} {m : Int32} {g : Nat → Value} (F : Sta Z h C n d v) (K : Keep h h' [a]) (E : Arf Z h a k ty m g) : Sta Z h' C n d v := by
  obtain ⟨cf, i, k, f, st, cell, h1, h2, h3, h4, h5, h6, h7⟩ := F
  obtain ⟨c2, A, -⟩ := E
  have q : st ≠ a := fun e => by
    subst e
    cases h5.symm.trans A.1
    have w := A.2.1.1
    cases hv : cell.vm <;> rw [hv] at h6 <;> first | exact w _ hv | cases h6
  exact ⟨cf, i, k, f, st, cell, h1, h2, h3, h4, K.2.1 _ _ h5 (ninS q nin0), h6, h7⟩
theorem own_none2 {P : Nat → Prop} : ∀ j, j < 2 * (0 : Int32).toNatClampNeg → P j := fun j hj => absurd hj (Nat.not_lt_zero j)
theorem own_none1 {P : Nat → Prop} : ∀ j, j < (0 : Int32).toNatClampNeg → P j := fun j hj => absurd hj (Nat.not_lt_zero j)
theorem own_fin16 (i n : Int32) (h : ¬ n < 0) (hn : n.toInt < 1073741824) (hf : i.toInt + (0 : Nat) = n.toInt) (j : Nat) (hj : j < (own_dbl n).toNatClampNeg) : j < 2 * i.toNatClampNeg := by
  have a := own_dblI n (own_nn n h) hn
  rw [own_cn] at hj ⊢
  omega
theorem own_fin8 (i n : Int32) (hf : i.toInt + (0 : Nat) = n.toInt) (j : Nat) (hj : j < n.toNatClampNeg) : j < i.toNatClampNeg := by
  rw [own_cn] at hj ⊢
  omega
theorem own_ltne (r n : Int32) (h : r < n) : ¬ r = n := fun q => by
  rw [own_lt, q] at h
  omega
def own_okb (c : Int32) : Prop := (¬ c < (65 : Int32) ∧ ¬ (90 : Int32) < c) ∨ (¬ c < (97 : Int32) ∧ ¬ (122 : Int32) < c) ∨ (¬ c < (48 : Int32) ∧ ¬ (57 : Int32) < c) ∨ c = (45 : Int32)
instance own_okD (c : Int32) : Decidable (own_okb c) := by unfold own_okb; infer_instance
def own_okc (c : Int32) : Int32 := if own_okb c then 1 else 0
def own_okP (c : Int32) : Prop := c = (45 : Int32) ∨ (¬ (c - (48 : Int32)) < (0 : Int32) ∧ (c - (48 : Int32)) < (10 : Int32)) ∨ (¬ (c ||| (32 : Int32)) < (97 : Int32) ∧ ¬ (122 : Int32) < (c ||| (32 : Int32)))
theorem own_low (c : Int32) (h0 : 0 ≤ c.toInt) : (¬ (c ||| (32 : Int32)) < (97 : Int32) ∧ ¬ (122 : Int32) < (c ||| (32 : Int32))) ↔ ((¬ c < (65 : Int32) ∧ ¬ (90 : Int32) < c) ∨ (¬ c < (97 : Int32) ∧ ¬ (122 : Int32) < c)) := by
  by_cases hc : c.toInt < 128
  · have fin : ∀ k : Fin 128, ((¬ (Int32.ofNat k.val ||| (32 : Int32)) < (97 : Int32) ∧ ¬ (122 : Int32) < (Int32.ofNat k.val ||| (32 : Int32))) ↔ ((¬ Int32.ofNat k.val < (65 : Int32) ∧ ¬ (90 : Int32) < Int32.ofNat k.val) ∨ (¬ Int32.ofNat k.val < (97 : Int32) ∧ ¬ (122 : Int32) < Int32.ofNat k.val))) := by decide +kernel
    have e : Int32.ofNat c.toInt.toNat = c := own_inj _ _ (by
      rw [Int32.toInt_ofNat_of_lt (by omega)]; omega)
    have q := fin ⟨c.toInt.toNat, by omega⟩
    rw [e] at q
    exact q
  · have a := c_or0 c 32 h0 (by decide)
    have e1 : (97 : Int32).toInt = 97 := rfl
    have e2 : (122 : Int32).toInt = 122 := rfl
    have e3 : (90 : Int32).toInt = 90 := rfl
    constructor
    · intro q
      have q2 := q.2
      rw [own_lt] at q2
      omega
    · intro q
      rcases q with q | q
      · have q2 := q.2
        rw [own_lt] at q2
        omega
      · have q2 := q.2
        rw [own_lt] at q2
        omega
theorem own_dig (c : Int32) (h0 : 0 ≤ c.toInt) : (¬ (c - (48 : Int32)) < (0 : Int32) ∧ (c - (48 : Int32)) < (10 : Int32)) ↔ (¬ c < (48 : Int32) ∧ ¬ (57 : Int32) < c) := by
  have a := c_isub c 48
  have b := rng32 c
  have d := rng32 (c - 48)
  have e1 : (48 : Int32).toInt = 48 := rfl
  have e2 : (57 : Int32).toInt = 57 := rfl
  have e3 : (10 : Int32).toInt = 10 := rfl
  have e4 : (0 : Int32).toInt = 0 := rfl
  simp only [own_lt]
  omega
theorem own_okI (c : Int32) (h0 : 0 ≤ c.toInt) : own_okP c ↔ own_okb c := by
  unfold own_okP own_okb
  rw [own_low c h0, own_dig c h0]
  constructor
  · rintro (q | q | q | q)
    · exact Or.inr (Or.inr (Or.inr q))
    · exact Or.inr (Or.inr (Or.inl q))
    · exact Or.inl q
    · exact Or.inr (Or.inl q)
  · rintro (q | q | q | q)
    · exact Or.inr (Or.inr (Or.inl q))
    · exact Or.inr (Or.inr (Or.inr q))
    · exact Or.inr (Or.inl q)
    · exact Or.inl q
theorem own_ok1 (c : Int32) (h0 : 0 ≤ c.toInt) (h : own_okP c) : nar .boolean (1 : Int32) = own_okc c := by
  unfold own_okc; rw [if_pos ((own_okI c h0).mp h)]; decide
theorem own_ok0 (c : Int32) (h0 : 0 ≤ c.toInt) (h : ¬ own_okP c) : nar .boolean (0 : Int32) = own_okc c := by
  unfold own_okc; rw [if_neg (fun q => h ((own_okI c h0).mpr q))]; decide
theorem own_ok01 (c : Int32) : own_okc c = 0 ∨ own_okc c = 1 := by unfold own_okc; split <;> simp
theorem own_okE (c : Int32) : (if c < (65 : Int32) then (if c < (97 : Int32) then (if c < (48 : Int32) then (if c = (45 : Int32) then (1 : Int32) else (0 : Int32)) else (if (57 : Int32) < c then (if c = (45 : Int32) then (1 : Int32) else (0 : Int32)) else (1 : Int32))) else (if (122 : Int32) < c then (if c < (48 : Int32) then (if c = (45 : Int32) then (1 : Int32) else (0 : Int32)) else (if (57 : Int32) < c then (if c = (45 : Int32) then (1 : Int32) else (0 : Int32)) else (1 : Int32))) else (1 : Int32))) else (if (90 : Int32) < c then (if c < (97 : Int32) then (if c < (48 : Int32) then (if c = (45 : Int32) then (1 : Int32) else (0 : Int32)) else (if (57 : Int32) < c then (if c = (45 : Int32) then (1 : Int32) else (0 : Int32)) else (1 : Int32))) else (if (122 : Int32) < c then (if c < (48 : Int32) then (if c = (45 : Int32) then (1 : Int32) else (0 : Int32)) else (if (57 : Int32) < c then (if c = (45 : Int32) then (1 : Int32) else (0 : Int32)) else (1 : Int32))) else (1 : Int32))) else (1 : Int32))) = own_okc c := by
  unfold own_okc own_okb
  by_cases h7 : c = (45 : Int32)
  · subst h7; decide
  by_cases h1 : c < (65 : Int32) <;> by_cases h2 : (90 : Int32) < c <;> by_cases h3 : c < (97 : Int32) <;> by_cases h4 : (122 : Int32) < c <;> by_cases h5 : c < (48 : Int32) <;> by_cases h6 : (57 : Int32) < c <;> simp only [h1, h2, h3, h4, h5, h6, h7, if_true, if_false, not_true_eq_false, not_false_eq_true, and_true, and_false, true_and, false_and, or_true, or_false, true_or, false_or, and_self, or_self]
def own_all (n : Int32) (ch : Nat → Int32) : Int32 := if ∀ j, j < n.toNatClampNeg → own_okc (ch j) = 1 then 1 else 0
def own_val (n : Int32) (ch : Nat → Int32) : Int32 := if own_isl n = (0 : Int32) then (if (32 : Int32) < n then 0 else own_all n ch) else 0
theorem own_v0a (n : Int32) (ch : Nat → Int32) (h : ¬ own_isl n = (0 : Int32)) : nar .boolean (0 : Int32) = own_val n ch := by unfold own_val; rw [if_neg h]; decide
theorem own_v0b (n : Int32) (ch : Nat → Int32) (h : own_isl n = (0 : Int32)) (h' : (32 : Int32) < n) : nar .boolean (0 : Int32) = own_val n ch := by unfold own_val; rw [if_pos h, if_pos h']; decide
theorem own_v0c (n i : Int32) (ch : Nat → Int32) (h : own_isl n = (0 : Int32)) (h' : ¬ (32 : Int32) < n) (hi : ¬ i < 0) (lt : i < n) (h0 : own_okc (ch i.toNatClampNeg) = (0 : Int32)) : nar .boolean (0 : Int32) = own_val n ch := by
  unfold own_val own_all; rw [if_pos h, if_neg h', if_neg (fun q => by have := q _ (own_pos i n hi lt); rw [h0] at this; cases this)]; decide
theorem own_v1 (n i : Int32) (ch : Nat → Int32) (h : own_isl n = (0 : Int32)) (h' : ¬ (32 : Int32) < n) (hfu : i.toInt + (0 : Nat) = n.toInt) (hf : ∀ j, j < i.toNatClampNeg → own_okc (ch j) = 1) : nar .boolean (1 : Int32) = own_val n ch := by
  unfold own_val own_all; rw [if_pos h, if_neg h', if_pos (fun j hj => hf j (own_fin8 i n hfu j hj))]; decide
theorem own_stepV (ch : Nat → Int32) (i n : Int32) (h : ¬ i < 0) (h' : i < n) (h0 : ¬ own_okc (ch i.toNatClampNeg) = (0 : Int32)) (hf : ∀ j, j < i.toNatClampNeg → own_okc (ch j) = 1) : ∀ j, j < (i + Int32.ofInt 1).toNatClampNeg → own_okc (ch j) = 1 := by
  intro j hj
  have s := own_suc i n h'
  have z := own_nn i h
  have e1 : (i + Int32.ofInt 1).toNatClampNeg = i.toNatClampNeg + 1 := by rw [own_cn, own_cn]; omega
  rw [e1] at hj
  by_cases r : j = i.toNatClampNeg
  · subst r
    rcases own_ok01 (ch i.toNatClampNeg) with q | q
    · exact absurd q h0
    · exact q
  · exact hf j (by omega)
def own_base (j : Nat) : Int32 := [(65 : Int32), 90, 97, 122, 48, 57, 45].getD (j % 7) 45
def own_ch3 (c0 c1 c2 : Int32) (j : Nat) : Int32 := if j = 0 then c0 else if j = 1 then c1 else c2
def own_chL (i0 i1 i2 c0 c1 c2 : Int32) (j : Nat) : Int32 := if j = i2.toNatClampNeg then c2 else if j = i1.toNatClampNeg then c1 else if j = i0.toNatClampNeg then c0 else own_base j
def own_r16 (c : Int32) : Prop := 0 ≤ c.toInt ∧ c.toInt < 65536
theorem own_mod7 (j : Nat) (P : Nat → Prop) (h0 : P 0) (h1 : P 1) (h2 : P 2) (h3 : P 3) (h4 : P 4) (h5 : P 5) (h6 : P 6) : P (j % 7) := by
  have h : j % 7 < 7 := Nat.mod_lt _ (by decide)
  generalize j % 7 = q at h
  match q, h with
  | 0, _ => exact h0
  | 1, _ => exact h1
  | 2, _ => exact h2
  | 3, _ => exact h3
  | 4, _ => exact h4
  | 5, _ => exact h5
  | 6, _ => exact h6
theorem own_baseR (j : Nat) : own_r16 (own_base j) := own_mod7 j (fun q => own_r16 ([(65 : Int32), 90, 97, 122, 48, 57, 45].getD q 45)) (by unfold own_r16; decide) (by unfold own_r16; decide) (by unfold own_r16; decide) (by unfold own_r16; decide) (by unfold own_r16; decide) (by unfold own_r16; decide) (by unfold own_r16; decide)
theorem own_baseK (j : Nat) : own_okc (own_base j) = 1 := own_mod7 j (fun q => own_okc ([(65 : Int32), 90, 97, 122, 48, 57, 45].getD q 45) = 1) (by decide) (by decide) (by decide) (by decide) (by decide) (by decide) (by decide)
theorem own_ch3R (c0 c1 c2 : Int32) (h0 : own_r16 c0) (h1 : own_r16 c1) (h2 : own_r16 c2) : own_c16 (own_ch3 c0 c1 c2) := fun j => by
  unfold own_ch3
  split
  · exact h0
  · split
    · exact h1
    · exact h2
theorem own_chLR (i0 i1 i2 c0 c1 c2 : Int32) (h0 : own_r16 c0) (h1 : own_r16 c1) (h2 : own_r16 c2) : own_c16 (own_chL i0 i1 i2 c0 c1 c2) := fun j => by
  unfold own_chL
  split
  · exact h2
  · split
    · exact h1
    · split
      · exact h0
      · exact own_baseR j
section OwnA
variable {Z : State} {h : Heap} {a : Addr} {k : ClassId} {c0 c1 c2 : Int32} {f : Nat → Value}
theorem own_a1 (c1 c2 : Int32) (F : Arf Z h a k .char (1 : Int32) (own_upd f (0 : Int32).toNatClampNeg (.int (nar .char c0)))) (h0 : own_r16 c0) : Arf Z h a k .char (1 : Int32) (own_cv (own_ch3 c0 c1 c2)) := F.congr (fun i hi => by
  match i, (show i < 1 from hi) with
  | 0, _ => exact congrArg Value.int (own_nc c0 h0.1 h0.2))
theorem own_a2 (c2 : Int32) (F : Arf Z h a k .char (2 : Int32) (own_upd (own_upd f (0 : Int32).toNatClampNeg (.int (nar .char c0))) (1 : Int32).toNatClampNeg (.int (nar .char c1)))) (h0 : own_r16 c0) (h1 : own_r16 c1) : Arf Z h a k .char (2 : Int32) (own_cv (own_ch3 c0 c1 c2)) := F.congr (fun i hi => by
  match i, (show i < 2 from hi) with
  | 0, _ => exact congrArg Value.int (own_nc c0 h0.1 h0.2)
  | 1, _ => exact congrArg Value.int (own_nc c1 h1.1 h1.2))
theorem own_a3 (F : Arf Z h a k .char (3 : Int32) (own_upd (own_upd (own_upd f (0 : Int32).toNatClampNeg (.int (nar .char c0))) (1 : Int32).toNatClampNeg (.int (nar .char c1))) (2 : Int32).toNatClampNeg (.int (nar .char c2)))) (h0 : own_r16 c0) (h1 : own_r16 c1) (h2 : own_r16 c2) : Arf Z h a k .char (3 : Int32) (own_cv (own_ch3 c0 c1 c2)) := F.congr (fun i hi => by
  match i, (show i < 3 from hi) with
  | 0, _ => exact congrArg Value.int (own_nc c0 h0.1 h0.2)
  | 1, _ => exact congrArg Value.int (own_nc c1 h1.1 h1.2)
  | 2, _ => exact congrArg Value.int (own_nc c2 h2.1 h2.2))
theorem own_aL {n i0 i1 i2 : Int32} (F : Arf Z h a k .char n (own_upd (own_upd (own_upd (own_cv own_base) i0.toNatClampNeg (.int (nar .char c0))) i1.toNatClampNeg (.int (nar .char c1))) i2.toNatClampNeg (.int (nar .char c2)))) (h0 : own_r16 c0) (h1 : own_r16 c1) (h2 : own_r16 c2) : Arf Z h a k .char n (own_cv (own_chL i0 i1 i2 c0 c1 c2)) := F.congr (fun i hi => by
  unfold own_upd own_cv own_chL
  split
  · exact congrArg Value.int (own_nc c2 h2.1 h2.2)
  · split
    · exact congrArg Value.int (own_nc c1 h1.1 h1.2)
    · split
      · exact congrArg Value.int (own_nc c0 h0.1 h0.2)
      · rfl)
end OwnA
theorem own_okn (c : Int32) (h : ¬ own_okc c = (0 : Int32)) : own_okc c = 1 := (own_ok01 c).resolve_left h
theorem own_vOne (n : Int32) (ch : Nat → Int32) (h : own_isl n = (0 : Int32)) (h' : ¬ (32 : Int32) < n) (q : ∀ j, j < n.toNatClampNeg → own_okc (ch j) = 1) : own_val n ch = (1 : Int32) := by
  unfold own_val own_all; rw [if_pos h, if_neg h', if_pos q]
theorem own_vZero (n : Int32) (ch : Nat → Int32) (h : own_isl n = (0 : Int32)) (h' : ¬ (32 : Int32) < n) (j : Nat) (hj : j < n.toNatClampNeg) (c : Int32) (hc : ch j = c) (q : own_okc c = (0 : Int32)) : own_val n ch = (0 : Int32) := by
  unfold own_val own_all; rw [if_pos h, if_neg h', if_neg (fun y => by have := y j hj; rw [hc, q] at this; cases this)]
theorem own_v3 (c0 c1 c2 : Int32) (j : Nat) (h0 : own_okc c0 = 1) (h1 : own_okc c1 = 1 ∨ j < 1) (h2 : own_okc c2 = 1 ∨ j < 2) : own_okc (own_ch3 c0 c1 c2 j) = 1 := by
  unfold own_ch3
  split
  · exact h0
  · split
    · exact h1.resolve_right (by omega)
    · exact h2.resolve_right (by omega)
theorem own_vL (i0 i1 i2 c0 c1 c2 : Int32) (j : Nat) (h0 : own_okc c0 = 1) (h1 : own_okc c1 = 1) (h2 : own_okc c2 = 1) : own_okc (own_chL i0 i1 i2 c0 c1 c2 j) = 1 := by
  unfold own_chL
  split
  · exact h2
  · split
    · exact h1
    · split
      · exact h0
      · exact own_baseK j
theorem own_vE (ch : Nat → Int32) : own_val (0 : Int32) ch = (0 : Int32) := by unfold own_val; rw [if_neg (by decide)]
theorem own_v33 (ch : Nat → Int32) : own_val (33 : Int32) ch = (0 : Int32) := by unfold own_val; rw [if_pos (by decide), if_pos (by decide)]
theorem own_vS (c0 c1 c2 : Int32) : own_val (1 : Int32) (own_ch3 c0 c1 c2) = own_okc c0 := by
  rcases own_ok01 c0 with q | q
  · rw [q]; exact own_vZero _ _ (by decide) (by decide) 0 (by decide) c0 rfl q
  · rw [q]; exact own_vOne _ _ (by decide) (by decide) (fun j hj => own_v3 c0 c1 c2 j q (Or.inr hj) (Or.inr (Nat.lt_succ_of_lt hj)))

theorem own_eqI {args : Array Value} {first s : State} {o : Option Outcome} {idx : List Nat} {t : Term} {k : Int32} (h : (Cond.eq t (.int k)).value args first o s idx = some true) : t.eval args first o idx s = some (.int k) := by
  simp only [Cond.value, Term.eval] at h; cases ht : t.eval args first o idx s with | none => simp [ht] at h | some x => cases x <;> simp [ht] at h ⊢; exact h
theorem own_arr {args : Array Value} {s : State} {t : Term} {ty : FieldType} {a : Addr} {z : Int32} (h : (Cond.arrayOf t ty).value args s none s [] = some true) (ev : t.eval args s none [] s = some (.ref a)) (hl : (Cond.eq (.length t) (.int z)).value args s none s [] = some true) :
    ∃ cl, Arr s s.heap a cl ty ∧ cl.slots.size < 2 ^ 31 ∧ cl.slots.size.toInt32 = z := by
  obtain ⟨cl, A⟩ := Jvm.RoadKit.Arr.start ev h
  obtain ⟨b, cell, e1, e2, e3, e4⟩ := Jvm.Lib.length_spec (own_eqI hl)
  cases ev.symm.trans e1
  cases A.1.symm.trans (Jvm.Lib.arrayAt_spec e2).1
  exact ⟨cl, A, e3, (Value.int.inj e4).symm⟩
theorem own_eqR {args : Array Value} {first s : State} {o : Option Outcome} {idx : List Nat} {t u : Term} {a : Addr} (h : (Cond.eq t u).value args first o s idx = some true) (hu : u.eval args first o idx s = some (.ref a)) : t.eval args first o idx s = some (.ref a) := by
  simp only [Cond.value, hu] at h; cases ht : t.eval args first o idx s with | none => simp [ht] at h | some x => cases x <;> simp [ht] at h ⊢; exact h

theorem own_nez {args : Array Value} {st : State} {t : Term} {c : Int32} (ev : t.eval args st none [] st = some (.int c)) (h : (Cond.not (Cond.eq t (.int 0))).value args st none st [] = some true) : ¬ c = (0 : Int32) := fun q => by
  subst q
  simp [Cond.value, ev, Term.eval] at h
theorem own_isr {args : Array Value} {st : State} {t : Term} (h : (Cond.isRef t).value args st none st [] = some true) : ∃ v, t.eval args st none [] st = some v ∧ v.isRef = true := by
  simp only [Cond.value] at h
  cases ht : t.eval args st none [] st with
  | none => simp [ht] at h
  | some x =>
    refine ⟨x, rfl, ?_⟩
    rw [ht] at h
    cases x <;> first | rfl | (simp at h)
theorem d11_0 : decode jdk_42_method_152_code 0 = .ok (.getstatic 38, 3) := by decide +kernel
theorem d11_3 : decode jdk_42_method_152_code 3 = .ok (.ifCond .eq 10, 3) := by decide +kernel
theorem d11_6 : decode jdk_42_method_152_code 6 = .ok (.aload_n 0, 1) := by decide +kernel
theorem d11_7 : decode jdk_42_method_152_code 7 = .ok (.getfield 15, 3) := by decide +kernel
theorem d11_10 : decode jdk_42_method_152_code 10 = .ok (.goto 4, 3) := by decide +kernel
theorem d11_13 : decode jdk_42_method_152_code 13 = .ok (.iconst 1, 1) := by decide +kernel
theorem d11_14 : decode jdk_42_method_152_code 14 = .ok (.ireturn, 1) := by decide +kernel
theorem pn_11 : plainName "java/lang/String" = true := by first | (simp [plainName, overriddenIn]; done) | decide +kernel
theorem d13_0 : decode jdk_42_method_154_code 0 = .ok (.getstatic 38, 3) := by decide +kernel
theorem d13_3 : decode jdk_42_method_154_code 3 = .ok (.ifCond .eq 14, 3) := by decide +kernel
theorem d13_6 : decode jdk_42_method_154_code 6 = .ok (.aload_n 0, 1) := by decide +kernel
theorem d13_7 : decode jdk_42_method_154_code 7 = .ok (.getfield 15, 3) := by decide +kernel
theorem d13_10 : decode jdk_42_method_154_code 10 = .ok (.ifCond .ne 7, 3) := by decide +kernel
theorem d13_13 : decode jdk_42_method_154_code 13 = .ok (.iconst 1, 1) := by decide +kernel
theorem d13_14 : decode jdk_42_method_154_code 14 = .ok (.goto 4, 3) := by decide +kernel
theorem d13_17 : decode jdk_42_method_154_code 17 = .ok (.iconst 0, 1) := by decide +kernel
theorem d13_18 : decode jdk_42_method_154_code 18 = .ok (.ireturn, 1) := by decide +kernel
theorem pn_13 : plainName "java/lang/String" = true := by first | (simp [plainName, overriddenIn]; done) | decide +kernel
theorem d9_0 : decode jdk_42_method_55_code 0 = .ok (.aload_n 0, 1) := by decide +kernel
theorem d9_1 : decode jdk_42_method_55_code 1 = .ok (.getfield 9, 3) := by decide +kernel
theorem d9_4 : decode jdk_42_method_55_code 4 = .ok (.arraylength, 1) := by decide +kernel
theorem d9_5 : decode jdk_42_method_55_code 5 = .ok (.ifCond .ne 7, 3) := by decide +kernel
theorem d9_8 : decode jdk_42_method_55_code 8 = .ok (.iconst 1, 1) := by decide +kernel
theorem d9_9 : decode jdk_42_method_55_code 9 = .ok (.goto 4, 3) := by decide +kernel
theorem d9_12 : decode jdk_42_method_55_code 12 = .ok (.iconst 0, 1) := by decide +kernel
theorem d9_13 : decode jdk_42_method_55_code 13 = .ok (.ireturn, 1) := by decide +kernel
theorem pn_9 : plainName "java/lang/String" = true := by first | (simp [plainName, overriddenIn]; done) | decide +kernel
theorem d10_0 : decode jdk_42_method_54_code 0 = .ok (.aload_n 0, 1) := by decide +kernel
theorem d10_1 : decode jdk_42_method_54_code 1 = .ok (.getfield 9, 3) := by decide +kernel
theorem d10_4 : decode jdk_42_method_54_code 4 = .ok (.arraylength, 1) := by decide +kernel
theorem d10_5 : decode jdk_42_method_54_code 5 = .ok (.aload_n 0, 1) := by decide +kernel
theorem d10_6 : decode jdk_42_method_54_code 6 = .ok (.invokevirtual 335, 3) := by decide +kernel
theorem d10_9 : decode jdk_42_method_54_code 9 = .ok (.ishr, 1) := by decide +kernel
theorem d10_10 : decode jdk_42_method_54_code 10 = .ok (.ireturn, 1) := by decide +kernel
theorem pn_10 : plainName "java/lang/String" = true := by first | (simp [plainName, overriddenIn]; done) | decide +kernel
theorem d12_0 : decode jdk_42_method_56_code 0 = .ok (.aload_n 0, 1) := by decide +kernel
theorem d12_1 : decode jdk_42_method_56_code 1 = .ok (.invokevirtual 492, 3) := by decide +kernel
theorem d12_4 : decode jdk_42_method_56_code 4 = .ok (.ifCond .eq 12, 3) := by decide +kernel
theorem d12_7 : decode jdk_42_method_56_code 7 = .ok (.aload_n 0, 1) := by decide +kernel
theorem d12_8 : decode jdk_42_method_56_code 8 = .ok (.getfield 9, 3) := by decide +kernel
theorem d12_11 : decode jdk_42_method_56_code 11 = .ok (.iload_n 1, 1) := by decide +kernel
theorem d12_12 : decode jdk_42_method_56_code 12 = .ok (.invokestatic 495, 3) := by decide +kernel
theorem d12_15 : decode jdk_42_method_56_code 15 = .ok (.ireturn, 1) := by decide +kernel
theorem d12_16 : decode jdk_42_method_56_code 16 = .ok (.aload_n 0, 1) := by decide +kernel
theorem d12_17 : decode jdk_42_method_56_code 17 = .ok (.getfield 9, 3) := by decide +kernel
theorem d12_20 : decode jdk_42_method_56_code 20 = .ok (.iload_n 1, 1) := by decide +kernel
theorem d12_21 : decode jdk_42_method_56_code 21 = .ok (.invokestatic 498, 3) := by decide +kernel
theorem d12_24 : decode jdk_42_method_56_code 24 = .ok (.ireturn, 1) := by decide +kernel
theorem pn_12 : plainName "java/lang/String" = true := by first | (simp [plainName, overriddenIn]; done) | decide +kernel
theorem d16_0 : decode jdk_41_method_11_code 0 = .ok (.iload_n 0, 1) := by decide +kernel
theorem d16_1 : decode jdk_41_method_11_code 1 = .ok (.ifCond .lt 8, 3) := by decide +kernel
theorem d16_4 : decode jdk_41_method_11_code 4 = .ok (.iload_n 0, 1) := by decide +kernel
theorem d16_5 : decode jdk_41_method_11_code 5 = .ok (.iload_n 1, 1) := by decide +kernel
theorem d16_6 : decode jdk_41_method_11_code 6 = .ok (.if_icmp .lt 10, 3) := by decide +kernel
theorem d16_9 : decode jdk_41_method_11_code 9 = .ok (.aload_n 2, 1) := by decide +kernel
theorem d16_10 : decode jdk_41_method_11_code 10 = .ok (.iload_n 0, 1) := by decide +kernel
theorem d16_11 : decode jdk_41_method_11_code 11 = .ok (.iload_n 1, 1) := by decide +kernel
theorem d16_12 : decode jdk_41_method_11_code 12 = .ok (.invokestatic 95, 3) := by decide +kernel
theorem d16_15 : decode jdk_41_method_11_code 15 = .ok (.athrow, 1) := by decide +kernel
theorem d16_16 : decode jdk_41_method_11_code 16 = .ok (.iload_n 0, 1) := by decide +kernel
theorem d16_17 : decode jdk_41_method_11_code 17 = .ok (.ireturn, 1) := by decide +kernel
theorem pn_16 : plainName "jdk/internal/util/Preconditions" = true := by first | (simp [plainName, overriddenIn]; done) | decide +kernel
theorem d15_0 : decode jdk_42_method_155_code 0 = .ok (.iload_n 0, 1) := by decide +kernel
theorem d15_1 : decode jdk_42_method_155_code 1 = .ok (.iload_n 1, 1) := by decide +kernel
theorem d15_2 : decode jdk_42_method_155_code 2 = .ok (.getstatic 1053, 3) := by decide +kernel
theorem d15_5 : decode jdk_42_method_155_code 5 = .ok (.invokestatic 1059, 3) := by decide +kernel
theorem d15_8 : decode jdk_42_method_155_code 8 = .ok (.pop, 1) := by decide +kernel
theorem d15_9 : decode jdk_42_method_155_code 9 = .ok (.return_, 1) := by decide +kernel
theorem pn_15 : plainName "java/lang/String" = true := by first | (simp [plainName, overriddenIn]; done) | decide +kernel
theorem d14_0 : decode jdk_43_method_2_code 0 = .ok (.iload_n 1, 1) := by decide +kernel
theorem d14_1 : decode jdk_43_method_2_code 1 = .ok (.aload_n 0, 1) := by decide +kernel
theorem d14_2 : decode jdk_43_method_2_code 2 = .ok (.arraylength, 1) := by decide +kernel
theorem d14_3 : decode jdk_43_method_2_code 3 = .ok (.invokestatic 9, 3) := by decide +kernel
theorem d14_6 : decode jdk_43_method_2_code 6 = .ok (.aload_n 0, 1) := by decide +kernel
theorem d14_7 : decode jdk_43_method_2_code 7 = .ok (.iload_n 1, 1) := by decide +kernel
theorem d14_8 : decode jdk_43_method_2_code 8 = .ok (.baload, 1) := by decide +kernel
theorem d14_9 : decode jdk_43_method_2_code 9 = .ok (.sipush 255, 3) := by decide +kernel
theorem d14_12 : decode jdk_43_method_2_code 12 = .ok (.iand, 1) := by decide +kernel
theorem d14_13 : decode jdk_43_method_2_code 13 = .ok (.i2c, 1) := by decide +kernel
theorem d14_14 : decode jdk_43_method_2_code 14 = .ok (.ireturn, 1) := by decide +kernel
theorem pn_14 : plainName "java/lang/StringLatin1" = true := by first | (simp [plainName, overriddenIn]; done) | decide +kernel
theorem d25_0 : decode jdk_52_method_6_code 0 = .ok (.aload_n 0, 1) := by decide +kernel
theorem d25_1 : decode jdk_52_method_6_code 1 = .ok (.arraylength, 1) := by decide +kernel
theorem d25_2 : decode jdk_52_method_6_code 2 = .ok (.iconst 1, 1) := by decide +kernel
theorem d25_3 : decode jdk_52_method_6_code 3 = .ok (.ishr, 1) := by decide +kernel
theorem d25_4 : decode jdk_52_method_6_code 4 = .ok (.ireturn, 1) := by decide +kernel
theorem pn_25 : plainName "java/lang/StringUTF16" = true := by first | (simp [plainName, overriddenIn]; done) | decide +kernel
theorem d24_0 : decode jdk_52_method_91_code 0 = .ok (.iload_n 0, 1) := by decide +kernel
theorem d24_1 : decode jdk_52_method_91_code 1 = .ok (.aload_n 1, 1) := by decide +kernel
theorem d24_2 : decode jdk_52_method_91_code 2 = .ok (.invokestatic 48, 3) := by decide +kernel
theorem d24_5 : decode jdk_52_method_91_code 5 = .ok (.invokestatic 414, 3) := by decide +kernel
theorem d24_8 : decode jdk_52_method_91_code 8 = .ok (.return_, 1) := by decide +kernel
theorem pn_24 : plainName "java/lang/StringUTF16" = true := by first | (simp [plainName, overriddenIn]; done) | decide +kernel
theorem d22_0 : decode jdk_52_method_5_code 0 = .ok (.getstatic 44, 3) := by decide +kernel
theorem d22_3 : decode jdk_52_method_5_code 3 = .ok (.ifCond .ne 25, 3) := by decide +kernel
theorem d22_6 : decode jdk_52_method_5_code 6 = .ok (.iload_n 1, 1) := by decide +kernel
theorem d22_7 : decode jdk_52_method_5_code 7 = .ok (.ifCond .lt 11, 3) := by decide +kernel
theorem d22_10 : decode jdk_52_method_5_code 10 = .ok (.iload_n 1, 1) := by decide +kernel
theorem d22_11 : decode jdk_52_method_5_code 11 = .ok (.aload_n 0, 1) := by decide +kernel
theorem d22_12 : decode jdk_52_method_5_code 12 = .ok (.invokestatic 48, 3) := by decide +kernel
theorem d22_15 : decode jdk_52_method_5_code 15 = .ok (.if_icmp .lt 13, 3) := by decide +kernel
theorem d22_18 : decode jdk_52_method_5_code 18 = .ok (.new 52, 3) := by decide +kernel
theorem d22_21 : decode jdk_52_method_5_code 21 = .ok (.dup, 1) := by decide +kernel
theorem d22_22 : decode jdk_52_method_5_code 22 = .ok (.ldc 54, 2) := by decide +kernel
theorem d22_24 : decode jdk_52_method_5_code 24 = .ok (.invokespecial 56, 3) := by decide +kernel
theorem d22_27 : decode jdk_52_method_5_code 27 = .ok (.athrow, 1) := by decide +kernel
theorem d22_28 : decode jdk_52_method_5_code 28 = .ok (.iload_n 1, 1) := by decide +kernel
theorem d22_29 : decode jdk_52_method_5_code 29 = .ok (.iconst 1, 1) := by decide +kernel
theorem d22_30 : decode jdk_52_method_5_code 30 = .ok (.ishl, 1) := by decide +kernel
theorem d22_31 : decode jdk_52_method_5_code 31 = .ok (.istore_n 1, 1) := by decide +kernel
theorem d22_32 : decode jdk_52_method_5_code 32 = .ok (.aload_n 0, 1) := by decide +kernel
theorem d22_33 : decode jdk_52_method_5_code 33 = .ok (.iload_n 1, 1) := by decide +kernel
theorem d22_34 : decode jdk_52_method_5_code 34 = .ok (.iinc 1 1, 3) := by decide +kernel
theorem d22_37 : decode jdk_52_method_5_code 37 = .ok (.baload, 1) := by decide +kernel
theorem d22_38 : decode jdk_52_method_5_code 38 = .ok (.sipush 255, 3) := by decide +kernel
theorem d22_41 : decode jdk_52_method_5_code 41 = .ok (.iand, 1) := by decide +kernel
theorem d22_42 : decode jdk_52_method_5_code 42 = .ok (.getstatic 59, 3) := by decide +kernel
theorem d22_45 : decode jdk_52_method_5_code 45 = .ok (.ishl, 1) := by decide +kernel
theorem d22_46 : decode jdk_52_method_5_code 46 = .ok (.aload_n 0, 1) := by decide +kernel
theorem d22_47 : decode jdk_52_method_5_code 47 = .ok (.iload_n 1, 1) := by decide +kernel
theorem d22_48 : decode jdk_52_method_5_code 48 = .ok (.baload, 1) := by decide +kernel
theorem d22_49 : decode jdk_52_method_5_code 49 = .ok (.sipush 255, 3) := by decide +kernel
theorem d22_52 : decode jdk_52_method_5_code 52 = .ok (.iand, 1) := by decide +kernel
theorem d22_53 : decode jdk_52_method_5_code 53 = .ok (.getstatic 63, 3) := by decide +kernel
theorem d22_56 : decode jdk_52_method_5_code 56 = .ok (.ishl, 1) := by decide +kernel
theorem d22_57 : decode jdk_52_method_5_code 57 = .ok (.ior, 1) := by decide +kernel
theorem d22_58 : decode jdk_52_method_5_code 58 = .ok (.i2c, 1) := by decide +kernel
theorem d22_59 : decode jdk_52_method_5_code 59 = .ok (.ireturn, 1) := by decide +kernel
theorem pn_22 : plainName "java/lang/StringUTF16" = true := by first | (simp [plainName, overriddenIn]; done) | decide +kernel
theorem d21_0 : decode jdk_52_method_4_code 0 = .ok (.getstatic 44, 3) := by decide +kernel
theorem d21_3 : decode jdk_52_method_4_code 3 = .ok (.ifCond .ne 25, 3) := by decide +kernel
theorem d21_6 : decode jdk_52_method_4_code 6 = .ok (.iload_n 1, 1) := by decide +kernel
theorem d21_7 : decode jdk_52_method_4_code 7 = .ok (.ifCond .lt 11, 3) := by decide +kernel
theorem d21_10 : decode jdk_52_method_4_code 10 = .ok (.iload_n 1, 1) := by decide +kernel
theorem d21_11 : decode jdk_52_method_4_code 11 = .ok (.aload_n 0, 1) := by decide +kernel
theorem d21_12 : decode jdk_52_method_4_code 12 = .ok (.invokestatic 48, 3) := by decide +kernel
theorem d21_15 : decode jdk_52_method_4_code 15 = .ok (.if_icmp .lt 13, 3) := by decide +kernel
theorem d21_18 : decode jdk_52_method_4_code 18 = .ok (.new 52, 3) := by decide +kernel
theorem d21_21 : decode jdk_52_method_4_code 21 = .ok (.dup, 1) := by decide +kernel
theorem d21_22 : decode jdk_52_method_4_code 22 = .ok (.ldc 54, 2) := by decide +kernel
theorem d21_24 : decode jdk_52_method_4_code 24 = .ok (.invokespecial 56, 3) := by decide +kernel
theorem d21_27 : decode jdk_52_method_4_code 27 = .ok (.athrow, 1) := by decide +kernel
theorem d21_28 : decode jdk_52_method_4_code 28 = .ok (.iload_n 1, 1) := by decide +kernel
theorem d21_29 : decode jdk_52_method_4_code 29 = .ok (.iconst 1, 1) := by decide +kernel
theorem d21_30 : decode jdk_52_method_4_code 30 = .ok (.ishl, 1) := by decide +kernel
theorem d21_31 : decode jdk_52_method_4_code 31 = .ok (.istore_n 1, 1) := by decide +kernel
theorem d21_32 : decode jdk_52_method_4_code 32 = .ok (.aload_n 0, 1) := by decide +kernel
theorem d21_33 : decode jdk_52_method_4_code 33 = .ok (.iload_n 1, 1) := by decide +kernel
theorem d21_34 : decode jdk_52_method_4_code 34 = .ok (.iinc 1 1, 3) := by decide +kernel
theorem d21_37 : decode jdk_52_method_4_code 37 = .ok (.iload_n 2, 1) := by decide +kernel
theorem d21_38 : decode jdk_52_method_4_code 38 = .ok (.getstatic 59, 3) := by decide +kernel
theorem d21_41 : decode jdk_52_method_4_code 41 = .ok (.ishr, 1) := by decide +kernel
theorem d21_42 : decode jdk_52_method_4_code 42 = .ok (.i2b, 1) := by decide +kernel
theorem d21_43 : decode jdk_52_method_4_code 43 = .ok (.bastore, 1) := by decide +kernel
theorem d21_44 : decode jdk_52_method_4_code 44 = .ok (.aload_n 0, 1) := by decide +kernel
theorem d21_45 : decode jdk_52_method_4_code 45 = .ok (.iload_n 1, 1) := by decide +kernel
theorem d21_46 : decode jdk_52_method_4_code 46 = .ok (.iload_n 2, 1) := by decide +kernel
theorem d21_47 : decode jdk_52_method_4_code 47 = .ok (.getstatic 63, 3) := by decide +kernel
theorem d21_50 : decode jdk_52_method_4_code 50 = .ok (.ishr, 1) := by decide +kernel
theorem d21_51 : decode jdk_52_method_4_code 51 = .ok (.i2b, 1) := by decide +kernel
theorem d21_52 : decode jdk_52_method_4_code 52 = .ok (.bastore, 1) := by decide +kernel
theorem d21_53 : decode jdk_52_method_4_code 53 = .ok (.return_, 1) := by decide +kernel
theorem pn_21 : plainName "java/lang/StringUTF16" = true := by first | (simp [plainName, overriddenIn]; done) | decide +kernel
theorem d23_0 : decode jdk_52_method_83_code 0 = .ok (.iload_n 1, 1) := by decide +kernel
theorem d23_1 : decode jdk_52_method_83_code 1 = .ok (.aload_n 0, 1) := by decide +kernel
theorem d23_2 : decode jdk_52_method_83_code 2 = .ok (.invokestatic 67, 3) := by decide +kernel
theorem d23_5 : decode jdk_52_method_83_code 5 = .ok (.aload_n 0, 1) := by decide +kernel
theorem d23_6 : decode jdk_52_method_83_code 6 = .ok (.iload_n 1, 1) := by decide +kernel
theorem d23_7 : decode jdk_52_method_83_code 7 = .ok (.invokestatic 71, 3) := by decide +kernel
theorem d23_10 : decode jdk_52_method_83_code 10 = .ok (.ireturn, 1) := by decide +kernel
theorem pn_23 : plainName "java/lang/StringUTF16" = true := by first | (simp [plainName, overriddenIn]; done) | decide +kernel
theorem d20_0 : decode jdk_52_method_3_code 0 = .ok (.iload_n 0, 1) := by decide +kernel
theorem d20_1 : decode jdk_52_method_3_code 1 = .ok (.ifCond .ge 11, 3) := by decide +kernel
theorem d20_4 : decode jdk_52_method_3_code 4 = .ok (.new 17, 3) := by decide +kernel
theorem d20_7 : decode jdk_52_method_3_code 7 = .ok (.dup, 1) := by decide +kernel
theorem d20_8 : decode jdk_52_method_3_code 8 = .ok (.invokespecial 19, 3) := by decide +kernel
theorem d20_11 : decode jdk_52_method_3_code 11 = .ok (.athrow, 1) := by decide +kernel
theorem d20_12 : decode jdk_52_method_3_code 12 = .ok (.iload_n 0, 1) := by decide +kernel
theorem d20_13 : decode jdk_52_method_3_code 13 = .ok (.ldc 20, 2) := by decide +kernel
theorem d20_15 : decode jdk_52_method_3_code 15 = .ok (.if_icmp .lt 40, 3) := by decide +kernel
theorem d20_18 : decode jdk_52_method_3_code 18 = .ok (.new 21, 3) := by decide +kernel
theorem d20_21 : decode jdk_52_method_3_code 21 = .ok (.dup, 1) := by decide +kernel
theorem d20_22 : decode jdk_52_method_3_code 22 = .ok (.new 23, 3) := by decide +kernel
theorem d20_25 : decode jdk_52_method_3_code 25 = .ok (.dup, 1) := by decide +kernel
theorem d20_26 : decode jdk_52_method_3_code 26 = .ok (.invokespecial 25, 3) := by decide +kernel
theorem d20_29 : decode jdk_52_method_3_code 29 = .ok (.ldc 26, 2) := by decide +kernel
theorem d20_31 : decode jdk_52_method_3_code 31 = .ok (.invokevirtual 28, 3) := by decide +kernel
theorem d20_34 : decode jdk_52_method_3_code 34 = .ok (.iload_n 0, 1) := by decide +kernel
theorem d20_35 : decode jdk_52_method_3_code 35 = .ok (.invokevirtual 32, 3) := by decide +kernel
theorem d20_38 : decode jdk_52_method_3_code 38 = .ok (.ldc 35, 2) := by decide +kernel
theorem d20_40 : decode jdk_52_method_3_code 40 = .ok (.invokevirtual 28, 3) := by decide +kernel
theorem d20_43 : decode jdk_52_method_3_code 43 = .ok (.ldc 20, 2) := by decide +kernel
theorem d20_45 : decode jdk_52_method_3_code 45 = .ok (.invokevirtual 32, 3) := by decide +kernel
theorem d20_48 : decode jdk_52_method_3_code 48 = .ok (.invokevirtual 37, 3) := by decide +kernel
theorem d20_51 : decode jdk_52_method_3_code 51 = .ok (.invokespecial 41, 3) := by decide +kernel
theorem d20_54 : decode jdk_52_method_3_code 54 = .ok (.athrow, 1) := by decide +kernel
theorem d20_55 : decode jdk_52_method_3_code 55 = .ok (.iload_n 0, 1) := by decide +kernel
theorem d20_56 : decode jdk_52_method_3_code 56 = .ok (.iconst 1, 1) := by decide +kernel
theorem d20_57 : decode jdk_52_method_3_code 57 = .ok (.ishl, 1) := by decide +kernel
theorem d20_58 : decode jdk_52_method_3_code 58 = .ok (.ireturn, 1) := by decide +kernel
theorem pn_20 : plainName "java/lang/StringUTF16" = true := by first | (simp [plainName, overriddenIn]; done) | decide +kernel
theorem d19_0 : decode jdk_52_method_2_code 0 = .ok (.iload_n 0, 1) := by decide +kernel
theorem d19_1 : decode jdk_52_method_2_code 1 = .ok (.invokestatic 11, 3) := by decide +kernel
theorem d19_4 : decode jdk_52_method_2_code 4 = .ok (.newarray .byte, 2) := by decide +kernel
theorem d19_6 : decode jdk_52_method_2_code 6 = .ok (.areturn, 1) := by decide +kernel
theorem pn_19 : plainName "java/lang/StringUTF16" = true := by first | (simp [plainName, overriddenIn]; done) | decide +kernel
theorem d18_0 : decode jdk_52_method_14_code 0 = .ok (.iload_n 2, 1) := by decide +kernel
theorem d18_1 : decode jdk_52_method_14_code 1 = .ok (.invokestatic 107, 3) := by decide +kernel
theorem d18_4 : decode jdk_52_method_14_code 4 = .ok (.astore_n 3, 1) := by decide +kernel
theorem d18_5 : decode jdk_52_method_14_code 5 = .ok (.iconst 0, 1) := by decide +kernel
theorem d18_6 : decode jdk_52_method_14_code 6 = .ok (.istore 4, 2) := by decide +kernel
theorem d18_8 : decode jdk_52_method_14_code 8 = .ok (.iload 4, 2) := by decide +kernel
theorem d18_10 : decode jdk_52_method_14_code 10 = .ok (.iload_n 2, 1) := by decide +kernel
theorem d18_11 : decode jdk_52_method_14_code 11 = .ok (.if_icmp .ge 21, 3) := by decide +kernel
theorem d18_14 : decode jdk_52_method_14_code 14 = .ok (.aload_n 3, 1) := by decide +kernel
theorem d18_15 : decode jdk_52_method_14_code 15 = .ok (.iload 4, 2) := by decide +kernel
theorem d18_17 : decode jdk_52_method_14_code 17 = .ok (.aload_n 0, 1) := by decide +kernel
theorem d18_18 : decode jdk_52_method_14_code 18 = .ok (.iload_n 1, 1) := by decide +kernel
theorem d18_19 : decode jdk_52_method_14_code 19 = .ok (.caload, 1) := by decide +kernel
theorem d18_20 : decode jdk_52_method_14_code 20 = .ok (.invokestatic 111, 3) := by decide +kernel
theorem d18_23 : decode jdk_52_method_14_code 23 = .ok (.iinc 1 1, 3) := by decide +kernel
theorem d18_26 : decode jdk_52_method_14_code 26 = .ok (.iinc 4 1, 3) := by decide +kernel
theorem d18_29 : decode jdk_52_method_14_code 29 = .ok (.goto (-21), 3) := by decide +kernel
theorem d18_32 : decode jdk_52_method_14_code 32 = .ok (.aload_n 3, 1) := by decide +kernel
theorem d18_33 : decode jdk_52_method_14_code 33 = .ok (.areturn, 1) := by decide +kernel
theorem pn_18 : plainName "java/lang/StringUTF16" = true := by first | (simp [plainName, overriddenIn]; done) | decide +kernel
theorem d6_0 : decode jdk_52_method_21_code 0 = .ok (.iconst 0, 1) := by decide +kernel
theorem d6_1 : decode jdk_52_method_21_code 1 = .ok (.istore 5, 2) := by decide +kernel
theorem d6_3 : decode jdk_52_method_21_code 3 = .ok (.iload 5, 2) := by decide +kernel
theorem d6_5 : decode jdk_52_method_21_code 5 = .ok (.iload 4, 2) := by decide +kernel
theorem d6_7 : decode jdk_52_method_21_code 7 = .ok (.if_icmp .ge 37, 3) := by decide +kernel
theorem d6_10 : decode jdk_52_method_21_code 10 = .ok (.aload_n 0, 1) := by decide +kernel
theorem d6_11 : decode jdk_52_method_21_code 11 = .ok (.iload_n 1, 1) := by decide +kernel
theorem d6_12 : decode jdk_52_method_21_code 12 = .ok (.caload, 1) := by decide +kernel
theorem d6_13 : decode jdk_52_method_21_code 13 = .ok (.istore 6, 2) := by decide +kernel
theorem d6_15 : decode jdk_52_method_21_code 15 = .ok (.iload 6, 2) := by decide +kernel
theorem d6_17 : decode jdk_52_method_21_code 17 = .ok (.sipush 255, 3) := by decide +kernel
theorem d6_20 : decode jdk_52_method_21_code 20 = .ok (.if_icmp .le 6, 3) := by decide +kernel
theorem d6_23 : decode jdk_52_method_21_code 23 = .ok (.iload 5, 2) := by decide +kernel
theorem d6_25 : decode jdk_52_method_21_code 25 = .ok (.ireturn, 1) := by decide +kernel
theorem d6_26 : decode jdk_52_method_21_code 26 = .ok (.aload_n 2, 1) := by decide +kernel
theorem d6_27 : decode jdk_52_method_21_code 27 = .ok (.iload_n 3, 1) := by decide +kernel
theorem d6_28 : decode jdk_52_method_21_code 28 = .ok (.iload 6, 2) := by decide +kernel
theorem d6_30 : decode jdk_52_method_21_code 30 = .ok (.i2b, 1) := by decide +kernel
theorem d6_31 : decode jdk_52_method_21_code 31 = .ok (.bastore, 1) := by decide +kernel
theorem d6_32 : decode jdk_52_method_21_code 32 = .ok (.iinc 1 1, 3) := by decide +kernel
theorem d6_35 : decode jdk_52_method_21_code 35 = .ok (.iinc 3 1, 3) := by decide +kernel
theorem d6_38 : decode jdk_52_method_21_code 38 = .ok (.iinc 5 1, 3) := by decide +kernel
theorem d6_41 : decode jdk_52_method_21_code 41 = .ok (.goto (-38), 3) := by decide +kernel
theorem d6_44 : decode jdk_52_method_21_code 44 = .ok (.iload 4, 2) := by decide +kernel
theorem d6_46 : decode jdk_52_method_21_code 46 = .ok (.ireturn, 1) := by decide +kernel
theorem pn_6 : plainName "java/lang/StringUTF16" = true := by first | (simp [plainName, overriddenIn]; done) | decide +kernel
theorem d5_0 : decode jdk_52_method_16_code 0 = .ok (.iload_n 2, 1) := by decide +kernel
theorem d5_1 : decode jdk_52_method_16_code 1 = .ok (.newarray .byte, 2) := by decide +kernel
theorem d5_3 : decode jdk_52_method_16_code 3 = .ok (.astore_n 3, 1) := by decide +kernel
theorem d5_4 : decode jdk_52_method_16_code 4 = .ok (.aload_n 0, 1) := by decide +kernel
theorem d5_5 : decode jdk_52_method_16_code 5 = .ok (.iload_n 1, 1) := by decide +kernel
theorem d5_6 : decode jdk_52_method_16_code 6 = .ok (.aload_n 3, 1) := by decide +kernel
theorem d5_7 : decode jdk_52_method_16_code 7 = .ok (.iconst 0, 1) := by decide +kernel
theorem d5_8 : decode jdk_52_method_16_code 8 = .ok (.iload_n 2, 1) := by decide +kernel
theorem d5_9 : decode jdk_52_method_16_code 9 = .ok (.invokestatic 115, 3) := by decide +kernel
theorem d5_12 : decode jdk_52_method_16_code 12 = .ok (.istore 4, 2) := by decide +kernel
theorem d5_14 : decode jdk_52_method_16_code 14 = .ok (.iload 4, 2) := by decide +kernel
theorem d5_16 : decode jdk_52_method_16_code 16 = .ok (.iload_n 2, 1) := by decide +kernel
theorem d5_17 : decode jdk_52_method_16_code 17 = .ok (.if_icmp .eq 40, 3) := by decide +kernel
theorem d5_20 : decode jdk_52_method_16_code 20 = .ok (.aload_n 0, 1) := by decide +kernel
theorem d5_21 : decode jdk_52_method_16_code 21 = .ok (.iload_n 1, 1) := by decide +kernel
theorem d5_22 : decode jdk_52_method_16_code 22 = .ok (.iload_n 2, 1) := by decide +kernel
theorem d5_23 : decode jdk_52_method_16_code 23 = .ok (.invokestatic 119, 3) := by decide +kernel
theorem d5_26 : decode jdk_52_method_16_code 26 = .ok (.astore 5, 2) := by decide +kernel
theorem d5_28 : decode jdk_52_method_16_code 28 = .ok (.aload 5, 2) := by decide +kernel
theorem d5_30 : decode jdk_52_method_16_code 30 = .ok (.iload 4, 2) := by decide +kernel
theorem d5_32 : decode jdk_52_method_16_code 32 = .ok (.invokestatic 71, 3) := by decide +kernel
theorem d5_35 : decode jdk_52_method_16_code 35 = .ok (.sipush 255, 3) := by decide +kernel
theorem d5_38 : decode jdk_52_method_16_code 38 = .ok (.if_icmp .gt 16, 3) := by decide +kernel
theorem d5_41 : decode jdk_52_method_16_code 41 = .ok (.aload 5, 2) := by decide +kernel
theorem d5_43 : decode jdk_52_method_16_code 43 = .ok (.iconst 0, 1) := by decide +kernel
theorem d5_44 : decode jdk_52_method_16_code 44 = .ok (.aload_n 3, 1) := by decide +kernel
theorem d5_45 : decode jdk_52_method_16_code 45 = .ok (.iconst 0, 1) := by decide +kernel
theorem d5_46 : decode jdk_52_method_16_code 46 = .ok (.iload_n 2, 1) := by decide +kernel
theorem d5_47 : decode jdk_52_method_16_code 47 = .ok (.invokestatic 123, 3) := by decide +kernel
theorem d5_50 : decode jdk_52_method_16_code 50 = .ok (.iload_n 2, 1) := by decide +kernel
theorem d5_51 : decode jdk_52_method_16_code 51 = .ok (.if_icmp .eq 6, 3) := by decide +kernel
theorem d5_54 : decode jdk_52_method_16_code 54 = .ok (.aload 5, 2) := by decide +kernel
theorem d5_56 : decode jdk_52_method_16_code 56 = .ok (.areturn, 1) := by decide +kernel
theorem d5_57 : decode jdk_52_method_16_code 57 = .ok (.aload_n 3, 1) := by decide +kernel
theorem d5_58 : decode jdk_52_method_16_code 58 = .ok (.areturn, 1) := by decide +kernel
theorem pn_5 : plainName "java/lang/StringUTF16" = true := by first | (simp [plainName, overriddenIn]; done) | decide +kernel
theorem d7_0 : decode jdk_52_method_15_code 0 = .ok (.iload_n 1, 1) := by decide +kernel
theorem d7_1 : decode jdk_52_method_15_code 1 = .ok (.aload_n 0, 1) := by decide +kernel
theorem d7_2 : decode jdk_52_method_15_code 2 = .ok (.arraylength, 1) := by decide +kernel
theorem d7_3 : decode jdk_52_method_15_code 3 = .ok (.isub, 1) := by decide +kernel
theorem d7_4 : decode jdk_52_method_15_code 4 = .ok (.bipush 31, 2) := by decide +kernel
theorem d7_6 : decode jdk_52_method_15_code 6 = .ok (.iushr, 1) := by decide +kernel
theorem d7_7 : decode jdk_52_method_15_code 7 = .ok (.i2b, 1) := by decide +kernel
theorem d7_8 : decode jdk_52_method_15_code 8 = .ok (.ireturn, 1) := by decide +kernel
theorem pn_7 : plainName "java/lang/StringUTF16" = true := by first | (simp [plainName, overriddenIn]; done) | decide +kernel
theorem d3_0 : decode jdk_42_method_149_code 0 = .ok (.aload_n 0, 1) := by decide +kernel
theorem d3_1 : decode jdk_42_method_149_code 1 = .ok (.invokespecial 1, 3) := by decide +kernel
theorem d3_4 : decode jdk_42_method_149_code 4 = .ok (.iload_n 3, 1) := by decide +kernel
theorem d3_5 : decode jdk_42_method_149_code 5 = .ok (.ifCond .ne 22, 3) := by decide +kernel
theorem d3_8 : decode jdk_42_method_149_code 8 = .ok (.aload_n 0, 1) := by decide +kernel
theorem d3_9 : decode jdk_42_method_149_code 9 = .ok (.ldc 7, 2) := by decide +kernel
theorem d3_11 : decode jdk_42_method_149_code 11 = .ok (.getfield 9, 3) := by decide +kernel
theorem d3_14 : decode jdk_42_method_149_code 14 = .ok (.putfield 9, 3) := by decide +kernel
theorem d3_17 : decode jdk_42_method_149_code 17 = .ok (.aload_n 0, 1) := by decide +kernel
theorem d3_18 : decode jdk_42_method_149_code 18 = .ok (.ldc 7, 2) := by decide +kernel
theorem d3_20 : decode jdk_42_method_149_code 20 = .ok (.getfield 15, 3) := by decide +kernel
theorem d3_23 : decode jdk_42_method_149_code 23 = .ok (.putfield 15, 3) := by decide +kernel
theorem d3_26 : decode jdk_42_method_149_code 26 = .ok (.return_, 1) := by decide +kernel
theorem d3_27 : decode jdk_42_method_149_code 27 = .ok (.getstatic 38, 3) := by decide +kernel
theorem d3_30 : decode jdk_42_method_149_code 30 = .ok (.ifCond .eq 28, 3) := by decide +kernel
theorem d3_33 : decode jdk_42_method_149_code 33 = .ok (.aload_n 1, 1) := by decide +kernel
theorem d3_34 : decode jdk_42_method_149_code 34 = .ok (.iload_n 2, 1) := by decide +kernel
theorem d3_35 : decode jdk_42_method_149_code 35 = .ok (.iload_n 3, 1) := by decide +kernel
theorem d3_36 : decode jdk_42_method_149_code 36 = .ok (.invokestatic 177, 3) := by decide +kernel
theorem d3_39 : decode jdk_42_method_149_code 39 = .ok (.astore 5, 2) := by decide +kernel
theorem d3_41 : decode jdk_42_method_149_code 41 = .ok (.aload_n 0, 1) := by decide +kernel
theorem d3_42 : decode jdk_42_method_149_code 42 = .ok (.aload 5, 2) := by decide +kernel
theorem d3_44 : decode jdk_42_method_149_code 44 = .ok (.iload_n 3, 1) := by decide +kernel
theorem d3_45 : decode jdk_42_method_149_code 45 = .ok (.invokestatic 47, 3) := by decide +kernel
theorem d3_48 : decode jdk_42_method_149_code 48 = .ok (.putfield 15, 3) := by decide +kernel
theorem d3_51 : decode jdk_42_method_149_code 51 = .ok (.aload_n 0, 1) := by decide +kernel
theorem d3_52 : decode jdk_42_method_149_code 52 = .ok (.aload 5, 2) := by decide +kernel
theorem d3_54 : decode jdk_42_method_149_code 54 = .ok (.putfield 9, 3) := by decide +kernel
theorem d3_57 : decode jdk_42_method_149_code 57 = .ok (.return_, 1) := by decide +kernel
theorem d3_58 : decode jdk_42_method_149_code 58 = .ok (.aload_n 0, 1) := by decide +kernel
theorem d3_59 : decode jdk_42_method_149_code 59 = .ok (.iconst 1, 1) := by decide +kernel
theorem d3_60 : decode jdk_42_method_149_code 60 = .ok (.putfield 15, 3) := by decide +kernel
theorem d3_63 : decode jdk_42_method_149_code 63 = .ok (.aload_n 0, 1) := by decide +kernel
theorem d3_64 : decode jdk_42_method_149_code 64 = .ok (.aload_n 1, 1) := by decide +kernel
theorem d3_65 : decode jdk_42_method_149_code 65 = .ok (.iload_n 2, 1) := by decide +kernel
theorem d3_66 : decode jdk_42_method_149_code 66 = .ok (.iload_n 3, 1) := by decide +kernel
theorem d3_67 : decode jdk_42_method_149_code 67 = .ok (.invokestatic 180, 3) := by decide +kernel
theorem d3_70 : decode jdk_42_method_149_code 70 = .ok (.putfield 9, 3) := by decide +kernel
theorem d3_73 : decode jdk_42_method_149_code 73 = .ok (.return_, 1) := by decide +kernel
theorem pn_3 : plainName "java/lang/String" = true := by first | (simp [plainName, overriddenIn]; done) | decide +kernel
theorem d2_0 : decode jdk_42_method_3_code 0 = .ok (.aload_n 0, 1) := by decide +kernel
theorem d2_1 : decode jdk_42_method_3_code 1 = .ok (.aload_n 1, 1) := by decide +kernel
theorem d2_2 : decode jdk_42_method_3_code 2 = .ok (.iconst 0, 1) := by decide +kernel
theorem d2_3 : decode jdk_42_method_3_code 3 = .ok (.aload_n 1, 1) := by decide +kernel
theorem d2_4 : decode jdk_42_method_3_code 4 = .ok (.arraylength, 1) := by decide +kernel
theorem d2_5 : decode jdk_42_method_3_code 5 = .ok (.aconst_null, 1) := by decide +kernel
theorem d2_6 : decode jdk_42_method_3_code 6 = .ok (.invokespecial 27, 3) := by decide +kernel
theorem d2_9 : decode jdk_42_method_3_code 9 = .ok (.return_, 1) := by decide +kernel
theorem pn_2 : plainName "java/lang/String" = true := by first | (simp [plainName, overriddenIn]; done) | decide +kernel
theorem d1_0 : decode method_3_code 0 = .ok (.iload_n 0, 1) := by decide +kernel
theorem d1_1 : decode method_3_code 1 = .ok (.istore_n 1, 1) := by decide +kernel
theorem d1_2 : decode method_3_code 2 = .ok (.iload_n 1, 1) := by decide +kernel
theorem d1_3 : decode method_3_code 3 = .ok (.bipush 48, 2) := by decide +kernel
theorem d1_5 : decode method_3_code 5 = .ok (.isub, 1) := by decide +kernel
theorem d1_6 : decode method_3_code 6 = .ok (.istore_n 2, 1) := by decide +kernel
theorem d1_7 : decode method_3_code 7 = .ok (.iload_n 1, 1) := by decide +kernel
theorem d1_8 : decode method_3_code 8 = .ok (.bipush 32, 2) := by decide +kernel
theorem d1_10 : decode method_3_code 10 = .ok (.ior, 1) := by decide +kernel
theorem d1_11 : decode method_3_code 11 = .ok (.istore_n 3, 1) := by decide +kernel
theorem d1_12 : decode method_3_code 12 = .ok (.iload_n 1, 1) := by decide +kernel
theorem d1_13 : decode method_3_code 13 = .ok (.bipush 45, 2) := by decide +kernel
theorem d1_15 : decode method_3_code 15 = .ok (.if_icmp .eq 25, 3) := by decide +kernel
theorem d1_18 : decode method_3_code 18 = .ok (.iload_n 2, 1) := by decide +kernel
theorem d1_19 : decode method_3_code 19 = .ok (.ifCond .lt 9, 3) := by decide +kernel
theorem d1_22 : decode method_3_code 22 = .ok (.iload_n 2, 1) := by decide +kernel
theorem d1_23 : decode method_3_code 23 = .ok (.bipush 10, 2) := by decide +kernel
theorem d1_25 : decode method_3_code 25 = .ok (.if_icmp .lt 15, 3) := by decide +kernel
theorem d1_28 : decode method_3_code 28 = .ok (.iload_n 3, 1) := by decide +kernel
theorem d1_29 : decode method_3_code 29 = .ok (.bipush 97, 2) := by decide +kernel
theorem d1_31 : decode method_3_code 31 = .ok (.if_icmp .lt 13, 3) := by decide +kernel
theorem d1_34 : decode method_3_code 34 = .ok (.iload_n 3, 1) := by decide +kernel
theorem d1_35 : decode method_3_code 35 = .ok (.bipush 122, 2) := by decide +kernel
theorem d1_37 : decode method_3_code 37 = .ok (.if_icmp .gt 7, 3) := by decide +kernel
theorem d1_40 : decode method_3_code 40 = .ok (.iconst 1, 1) := by decide +kernel
theorem d1_41 : decode method_3_code 41 = .ok (.goto 4, 3) := by decide +kernel
theorem d1_44 : decode method_3_code 44 = .ok (.iconst 0, 1) := by decide +kernel
theorem d1_45 : decode method_3_code 45 = .ok (.ireturn, 1) := by decide +kernel
theorem pn_1 : plainName "com/example/lossfall/lossfall/model/CertificateClassIsValidNamePinLaw" = true := by first | (simp [plainName, overriddenIn]; done) | decide +kernel
theorem d17_0 : decode method_4_code 0 = .ok (.iload_n 0, 1) := by decide +kernel
theorem d17_1 : decode method_4_code 1 = .ok (.bipush 31, 2) := by decide +kernel
theorem d17_3 : decode method_4_code 3 = .ok (.if_icmp .ne 188, 3) := by decide +kernel
theorem d17_6 : decode method_4_code 6 = .ok (.bipush 31, 2) := by decide +kernel
theorem d17_8 : decode method_4_code 8 = .ok (.newarray .char, 2) := by decide +kernel
theorem d17_10 : decode method_4_code 10 = .ok (.dup, 1) := by decide +kernel
theorem d17_11 : decode method_4_code 11 = .ok (.iconst 0, 1) := by decide +kernel
theorem d17_12 : decode method_4_code 12 = .ok (.bipush 65, 2) := by decide +kernel
theorem d17_14 : decode method_4_code 14 = .ok (.castore, 1) := by decide +kernel
theorem d17_15 : decode method_4_code 15 = .ok (.dup, 1) := by decide +kernel
theorem d17_16 : decode method_4_code 16 = .ok (.iconst 1, 1) := by decide +kernel
theorem d17_17 : decode method_4_code 17 = .ok (.bipush 90, 2) := by decide +kernel
theorem d17_19 : decode method_4_code 19 = .ok (.castore, 1) := by decide +kernel
theorem d17_20 : decode method_4_code 20 = .ok (.dup, 1) := by decide +kernel
theorem d17_21 : decode method_4_code 21 = .ok (.iconst 2, 1) := by decide +kernel
theorem d17_22 : decode method_4_code 22 = .ok (.bipush 97, 2) := by decide +kernel
theorem d17_24 : decode method_4_code 24 = .ok (.castore, 1) := by decide +kernel
theorem d17_25 : decode method_4_code 25 = .ok (.dup, 1) := by decide +kernel
theorem d17_26 : decode method_4_code 26 = .ok (.iconst 3, 1) := by decide +kernel
theorem d17_27 : decode method_4_code 27 = .ok (.bipush 122, 2) := by decide +kernel
theorem d17_29 : decode method_4_code 29 = .ok (.castore, 1) := by decide +kernel
theorem d17_30 : decode method_4_code 30 = .ok (.dup, 1) := by decide +kernel
theorem d17_31 : decode method_4_code 31 = .ok (.iconst 4, 1) := by decide +kernel
theorem d17_32 : decode method_4_code 32 = .ok (.bipush 48, 2) := by decide +kernel
theorem d17_34 : decode method_4_code 34 = .ok (.castore, 1) := by decide +kernel
theorem d17_35 : decode method_4_code 35 = .ok (.dup, 1) := by decide +kernel
theorem d17_36 : decode method_4_code 36 = .ok (.iconst 5, 1) := by decide +kernel
theorem d17_37 : decode method_4_code 37 = .ok (.bipush 57, 2) := by decide +kernel
theorem d17_39 : decode method_4_code 39 = .ok (.castore, 1) := by decide +kernel
theorem d17_40 : decode method_4_code 40 = .ok (.dup, 1) := by decide +kernel
theorem d17_41 : decode method_4_code 41 = .ok (.bipush 6, 2) := by decide +kernel
theorem d17_43 : decode method_4_code 43 = .ok (.bipush 45, 2) := by decide +kernel
theorem d17_45 : decode method_4_code 45 = .ok (.castore, 1) := by decide +kernel
theorem d17_46 : decode method_4_code 46 = .ok (.dup, 1) := by decide +kernel
theorem d17_47 : decode method_4_code 47 = .ok (.bipush 7, 2) := by decide +kernel
theorem d17_49 : decode method_4_code 49 = .ok (.bipush 65, 2) := by decide +kernel
theorem d17_51 : decode method_4_code 51 = .ok (.castore, 1) := by decide +kernel
theorem d17_52 : decode method_4_code 52 = .ok (.dup, 1) := by decide +kernel
theorem d17_53 : decode method_4_code 53 = .ok (.bipush 8, 2) := by decide +kernel
theorem d17_55 : decode method_4_code 55 = .ok (.bipush 90, 2) := by decide +kernel
theorem d17_57 : decode method_4_code 57 = .ok (.castore, 1) := by decide +kernel
theorem d17_58 : decode method_4_code 58 = .ok (.dup, 1) := by decide +kernel
theorem d17_59 : decode method_4_code 59 = .ok (.bipush 9, 2) := by decide +kernel
theorem d17_61 : decode method_4_code 61 = .ok (.bipush 97, 2) := by decide +kernel
theorem d17_63 : decode method_4_code 63 = .ok (.castore, 1) := by decide +kernel
theorem d17_64 : decode method_4_code 64 = .ok (.dup, 1) := by decide +kernel
theorem d17_65 : decode method_4_code 65 = .ok (.bipush 10, 2) := by decide +kernel
theorem d17_67 : decode method_4_code 67 = .ok (.bipush 122, 2) := by decide +kernel
theorem d17_69 : decode method_4_code 69 = .ok (.castore, 1) := by decide +kernel
theorem d17_70 : decode method_4_code 70 = .ok (.dup, 1) := by decide +kernel
theorem d17_71 : decode method_4_code 71 = .ok (.bipush 11, 2) := by decide +kernel
theorem d17_73 : decode method_4_code 73 = .ok (.bipush 48, 2) := by decide +kernel
theorem d17_75 : decode method_4_code 75 = .ok (.castore, 1) := by decide +kernel
theorem d17_76 : decode method_4_code 76 = .ok (.dup, 1) := by decide +kernel
theorem d17_77 : decode method_4_code 77 = .ok (.bipush 12, 2) := by decide +kernel
theorem d17_79 : decode method_4_code 79 = .ok (.bipush 57, 2) := by decide +kernel
theorem d17_81 : decode method_4_code 81 = .ok (.castore, 1) := by decide +kernel
theorem d17_82 : decode method_4_code 82 = .ok (.dup, 1) := by decide +kernel
theorem d17_83 : decode method_4_code 83 = .ok (.bipush 13, 2) := by decide +kernel
theorem d17_85 : decode method_4_code 85 = .ok (.bipush 45, 2) := by decide +kernel
theorem d17_87 : decode method_4_code 87 = .ok (.castore, 1) := by decide +kernel
theorem d17_88 : decode method_4_code 88 = .ok (.dup, 1) := by decide +kernel
theorem d17_89 : decode method_4_code 89 = .ok (.bipush 14, 2) := by decide +kernel
theorem d17_91 : decode method_4_code 91 = .ok (.bipush 65, 2) := by decide +kernel
theorem d17_93 : decode method_4_code 93 = .ok (.castore, 1) := by decide +kernel
theorem d17_94 : decode method_4_code 94 = .ok (.dup, 1) := by decide +kernel
theorem d17_95 : decode method_4_code 95 = .ok (.bipush 15, 2) := by decide +kernel
theorem d17_97 : decode method_4_code 97 = .ok (.bipush 90, 2) := by decide +kernel
theorem d17_99 : decode method_4_code 99 = .ok (.castore, 1) := by decide +kernel
theorem d17_100 : decode method_4_code 100 = .ok (.dup, 1) := by decide +kernel
theorem d17_101 : decode method_4_code 101 = .ok (.bipush 16, 2) := by decide +kernel
theorem d17_103 : decode method_4_code 103 = .ok (.bipush 97, 2) := by decide +kernel
theorem d17_105 : decode method_4_code 105 = .ok (.castore, 1) := by decide +kernel
theorem d17_106 : decode method_4_code 106 = .ok (.dup, 1) := by decide +kernel
theorem d17_107 : decode method_4_code 107 = .ok (.bipush 17, 2) := by decide +kernel
theorem d17_109 : decode method_4_code 109 = .ok (.bipush 122, 2) := by decide +kernel
theorem d17_111 : decode method_4_code 111 = .ok (.castore, 1) := by decide +kernel
theorem d17_112 : decode method_4_code 112 = .ok (.dup, 1) := by decide +kernel
theorem d17_113 : decode method_4_code 113 = .ok (.bipush 18, 2) := by decide +kernel
theorem d17_115 : decode method_4_code 115 = .ok (.bipush 48, 2) := by decide +kernel
theorem d17_117 : decode method_4_code 117 = .ok (.castore, 1) := by decide +kernel
theorem d17_118 : decode method_4_code 118 = .ok (.dup, 1) := by decide +kernel
theorem d17_119 : decode method_4_code 119 = .ok (.bipush 19, 2) := by decide +kernel
theorem d17_121 : decode method_4_code 121 = .ok (.bipush 57, 2) := by decide +kernel
theorem d17_123 : decode method_4_code 123 = .ok (.castore, 1) := by decide +kernel
theorem d17_124 : decode method_4_code 124 = .ok (.dup, 1) := by decide +kernel
theorem d17_125 : decode method_4_code 125 = .ok (.bipush 20, 2) := by decide +kernel
theorem d17_127 : decode method_4_code 127 = .ok (.bipush 45, 2) := by decide +kernel
theorem d17_129 : decode method_4_code 129 = .ok (.castore, 1) := by decide +kernel
theorem d17_130 : decode method_4_code 130 = .ok (.dup, 1) := by decide +kernel
theorem d17_131 : decode method_4_code 131 = .ok (.bipush 21, 2) := by decide +kernel
theorem d17_133 : decode method_4_code 133 = .ok (.bipush 65, 2) := by decide +kernel
theorem d17_135 : decode method_4_code 135 = .ok (.castore, 1) := by decide +kernel
theorem d17_136 : decode method_4_code 136 = .ok (.dup, 1) := by decide +kernel
theorem d17_137 : decode method_4_code 137 = .ok (.bipush 22, 2) := by decide +kernel
theorem d17_139 : decode method_4_code 139 = .ok (.bipush 90, 2) := by decide +kernel
theorem d17_141 : decode method_4_code 141 = .ok (.castore, 1) := by decide +kernel
theorem d17_142 : decode method_4_code 142 = .ok (.dup, 1) := by decide +kernel
theorem d17_143 : decode method_4_code 143 = .ok (.bipush 23, 2) := by decide +kernel
theorem d17_145 : decode method_4_code 145 = .ok (.bipush 97, 2) := by decide +kernel
theorem d17_147 : decode method_4_code 147 = .ok (.castore, 1) := by decide +kernel
theorem d17_148 : decode method_4_code 148 = .ok (.dup, 1) := by decide +kernel
theorem d17_149 : decode method_4_code 149 = .ok (.bipush 24, 2) := by decide +kernel
theorem d17_151 : decode method_4_code 151 = .ok (.bipush 122, 2) := by decide +kernel
theorem d17_153 : decode method_4_code 153 = .ok (.castore, 1) := by decide +kernel
theorem d17_154 : decode method_4_code 154 = .ok (.dup, 1) := by decide +kernel
theorem d17_155 : decode method_4_code 155 = .ok (.bipush 25, 2) := by decide +kernel
theorem d17_157 : decode method_4_code 157 = .ok (.bipush 48, 2) := by decide +kernel
theorem d17_159 : decode method_4_code 159 = .ok (.castore, 1) := by decide +kernel
theorem d17_160 : decode method_4_code 160 = .ok (.dup, 1) := by decide +kernel
theorem d17_161 : decode method_4_code 161 = .ok (.bipush 26, 2) := by decide +kernel
theorem d17_163 : decode method_4_code 163 = .ok (.bipush 57, 2) := by decide +kernel
theorem d17_165 : decode method_4_code 165 = .ok (.castore, 1) := by decide +kernel
theorem d17_166 : decode method_4_code 166 = .ok (.dup, 1) := by decide +kernel
theorem d17_167 : decode method_4_code 167 = .ok (.bipush 27, 2) := by decide +kernel
theorem d17_169 : decode method_4_code 169 = .ok (.bipush 45, 2) := by decide +kernel
theorem d17_171 : decode method_4_code 171 = .ok (.castore, 1) := by decide +kernel
theorem d17_172 : decode method_4_code 172 = .ok (.dup, 1) := by decide +kernel
theorem d17_173 : decode method_4_code 173 = .ok (.bipush 28, 2) := by decide +kernel
theorem d17_175 : decode method_4_code 175 = .ok (.bipush 65, 2) := by decide +kernel
theorem d17_177 : decode method_4_code 177 = .ok (.castore, 1) := by decide +kernel
theorem d17_178 : decode method_4_code 178 = .ok (.dup, 1) := by decide +kernel
theorem d17_179 : decode method_4_code 179 = .ok (.bipush 29, 2) := by decide +kernel
theorem d17_181 : decode method_4_code 181 = .ok (.bipush 90, 2) := by decide +kernel
theorem d17_183 : decode method_4_code 183 = .ok (.castore, 1) := by decide +kernel
theorem d17_184 : decode method_4_code 184 = .ok (.dup, 1) := by decide +kernel
theorem d17_185 : decode method_4_code 185 = .ok (.bipush 30, 2) := by decide +kernel
theorem d17_187 : decode method_4_code 187 = .ok (.bipush 97, 2) := by decide +kernel
theorem d17_189 : decode method_4_code 189 = .ok (.castore, 1) := by decide +kernel
theorem d17_190 : decode method_4_code 190 = .ok (.areturn, 1) := by decide +kernel
theorem d17_191 : decode method_4_code 191 = .ok (.iload_n 0, 1) := by decide +kernel
theorem d17_192 : decode method_4_code 192 = .ok (.bipush 33, 2) := by decide +kernel
theorem d17_194 : decode method_4_code 194 = .ok (.if_icmp .ne 200, 3) := by decide +kernel
theorem d17_197 : decode method_4_code 197 = .ok (.bipush 33, 2) := by decide +kernel
theorem d17_199 : decode method_4_code 199 = .ok (.newarray .char, 2) := by decide +kernel
theorem d17_201 : decode method_4_code 201 = .ok (.dup, 1) := by decide +kernel
theorem d17_202 : decode method_4_code 202 = .ok (.iconst 0, 1) := by decide +kernel
theorem d17_203 : decode method_4_code 203 = .ok (.bipush 65, 2) := by decide +kernel
theorem d17_205 : decode method_4_code 205 = .ok (.castore, 1) := by decide +kernel
theorem d17_206 : decode method_4_code 206 = .ok (.dup, 1) := by decide +kernel
theorem d17_207 : decode method_4_code 207 = .ok (.iconst 1, 1) := by decide +kernel
theorem d17_208 : decode method_4_code 208 = .ok (.bipush 90, 2) := by decide +kernel
theorem d17_210 : decode method_4_code 210 = .ok (.castore, 1) := by decide +kernel
theorem d17_211 : decode method_4_code 211 = .ok (.dup, 1) := by decide +kernel
theorem d17_212 : decode method_4_code 212 = .ok (.iconst 2, 1) := by decide +kernel
theorem d17_213 : decode method_4_code 213 = .ok (.bipush 97, 2) := by decide +kernel
theorem d17_215 : decode method_4_code 215 = .ok (.castore, 1) := by decide +kernel
theorem d17_216 : decode method_4_code 216 = .ok (.dup, 1) := by decide +kernel
theorem d17_217 : decode method_4_code 217 = .ok (.iconst 3, 1) := by decide +kernel
theorem d17_218 : decode method_4_code 218 = .ok (.bipush 122, 2) := by decide +kernel
theorem d17_220 : decode method_4_code 220 = .ok (.castore, 1) := by decide +kernel
theorem d17_221 : decode method_4_code 221 = .ok (.dup, 1) := by decide +kernel
theorem d17_222 : decode method_4_code 222 = .ok (.iconst 4, 1) := by decide +kernel
theorem d17_223 : decode method_4_code 223 = .ok (.bipush 48, 2) := by decide +kernel
theorem d17_225 : decode method_4_code 225 = .ok (.castore, 1) := by decide +kernel
theorem d17_226 : decode method_4_code 226 = .ok (.dup, 1) := by decide +kernel
theorem d17_227 : decode method_4_code 227 = .ok (.iconst 5, 1) := by decide +kernel
theorem d17_228 : decode method_4_code 228 = .ok (.bipush 57, 2) := by decide +kernel
theorem d17_230 : decode method_4_code 230 = .ok (.castore, 1) := by decide +kernel
theorem d17_231 : decode method_4_code 231 = .ok (.dup, 1) := by decide +kernel
theorem d17_232 : decode method_4_code 232 = .ok (.bipush 6, 2) := by decide +kernel
theorem d17_234 : decode method_4_code 234 = .ok (.bipush 45, 2) := by decide +kernel
theorem d17_236 : decode method_4_code 236 = .ok (.castore, 1) := by decide +kernel
theorem d17_237 : decode method_4_code 237 = .ok (.dup, 1) := by decide +kernel
theorem d17_238 : decode method_4_code 238 = .ok (.bipush 7, 2) := by decide +kernel
theorem d17_240 : decode method_4_code 240 = .ok (.bipush 65, 2) := by decide +kernel
theorem d17_242 : decode method_4_code 242 = .ok (.castore, 1) := by decide +kernel
theorem d17_243 : decode method_4_code 243 = .ok (.dup, 1) := by decide +kernel
theorem d17_244 : decode method_4_code 244 = .ok (.bipush 8, 2) := by decide +kernel
theorem d17_246 : decode method_4_code 246 = .ok (.bipush 90, 2) := by decide +kernel
theorem d17_248 : decode method_4_code 248 = .ok (.castore, 1) := by decide +kernel
theorem d17_249 : decode method_4_code 249 = .ok (.dup, 1) := by decide +kernel
theorem d17_250 : decode method_4_code 250 = .ok (.bipush 9, 2) := by decide +kernel
theorem d17_252 : decode method_4_code 252 = .ok (.bipush 97, 2) := by decide +kernel
theorem d17_254 : decode method_4_code 254 = .ok (.castore, 1) := by decide +kernel
theorem d17_255 : decode method_4_code 255 = .ok (.dup, 1) := by decide +kernel
theorem d17_256 : decode method_4_code 256 = .ok (.bipush 10, 2) := by decide +kernel
theorem d17_258 : decode method_4_code 258 = .ok (.bipush 122, 2) := by decide +kernel
theorem d17_260 : decode method_4_code 260 = .ok (.castore, 1) := by decide +kernel
theorem d17_261 : decode method_4_code 261 = .ok (.dup, 1) := by decide +kernel
theorem d17_262 : decode method_4_code 262 = .ok (.bipush 11, 2) := by decide +kernel
theorem d17_264 : decode method_4_code 264 = .ok (.bipush 48, 2) := by decide +kernel
theorem d17_266 : decode method_4_code 266 = .ok (.castore, 1) := by decide +kernel
theorem d17_267 : decode method_4_code 267 = .ok (.dup, 1) := by decide +kernel
theorem d17_268 : decode method_4_code 268 = .ok (.bipush 12, 2) := by decide +kernel
theorem d17_270 : decode method_4_code 270 = .ok (.bipush 57, 2) := by decide +kernel
theorem d17_272 : decode method_4_code 272 = .ok (.castore, 1) := by decide +kernel
theorem d17_273 : decode method_4_code 273 = .ok (.dup, 1) := by decide +kernel
theorem d17_274 : decode method_4_code 274 = .ok (.bipush 13, 2) := by decide +kernel
theorem d17_276 : decode method_4_code 276 = .ok (.bipush 45, 2) := by decide +kernel
theorem d17_278 : decode method_4_code 278 = .ok (.castore, 1) := by decide +kernel
theorem d17_279 : decode method_4_code 279 = .ok (.dup, 1) := by decide +kernel
theorem d17_280 : decode method_4_code 280 = .ok (.bipush 14, 2) := by decide +kernel
theorem d17_282 : decode method_4_code 282 = .ok (.bipush 65, 2) := by decide +kernel
theorem d17_284 : decode method_4_code 284 = .ok (.castore, 1) := by decide +kernel
theorem d17_285 : decode method_4_code 285 = .ok (.dup, 1) := by decide +kernel
theorem d17_286 : decode method_4_code 286 = .ok (.bipush 15, 2) := by decide +kernel
theorem d17_288 : decode method_4_code 288 = .ok (.bipush 90, 2) := by decide +kernel
theorem d17_290 : decode method_4_code 290 = .ok (.castore, 1) := by decide +kernel
theorem d17_291 : decode method_4_code 291 = .ok (.dup, 1) := by decide +kernel
theorem d17_292 : decode method_4_code 292 = .ok (.bipush 16, 2) := by decide +kernel
theorem d17_294 : decode method_4_code 294 = .ok (.bipush 97, 2) := by decide +kernel
theorem d17_296 : decode method_4_code 296 = .ok (.castore, 1) := by decide +kernel
theorem d17_297 : decode method_4_code 297 = .ok (.dup, 1) := by decide +kernel
theorem d17_298 : decode method_4_code 298 = .ok (.bipush 17, 2) := by decide +kernel
theorem d17_300 : decode method_4_code 300 = .ok (.bipush 122, 2) := by decide +kernel
theorem d17_302 : decode method_4_code 302 = .ok (.castore, 1) := by decide +kernel
theorem d17_303 : decode method_4_code 303 = .ok (.dup, 1) := by decide +kernel
theorem d17_304 : decode method_4_code 304 = .ok (.bipush 18, 2) := by decide +kernel
theorem d17_306 : decode method_4_code 306 = .ok (.bipush 48, 2) := by decide +kernel
theorem d17_308 : decode method_4_code 308 = .ok (.castore, 1) := by decide +kernel
theorem d17_309 : decode method_4_code 309 = .ok (.dup, 1) := by decide +kernel
theorem d17_310 : decode method_4_code 310 = .ok (.bipush 19, 2) := by decide +kernel
theorem d17_312 : decode method_4_code 312 = .ok (.bipush 57, 2) := by decide +kernel
theorem d17_314 : decode method_4_code 314 = .ok (.castore, 1) := by decide +kernel
theorem d17_315 : decode method_4_code 315 = .ok (.dup, 1) := by decide +kernel
theorem d17_316 : decode method_4_code 316 = .ok (.bipush 20, 2) := by decide +kernel
theorem d17_318 : decode method_4_code 318 = .ok (.bipush 45, 2) := by decide +kernel
theorem d17_320 : decode method_4_code 320 = .ok (.castore, 1) := by decide +kernel
theorem d17_321 : decode method_4_code 321 = .ok (.dup, 1) := by decide +kernel
theorem d17_322 : decode method_4_code 322 = .ok (.bipush 21, 2) := by decide +kernel
theorem d17_324 : decode method_4_code 324 = .ok (.bipush 65, 2) := by decide +kernel
theorem d17_326 : decode method_4_code 326 = .ok (.castore, 1) := by decide +kernel
theorem d17_327 : decode method_4_code 327 = .ok (.dup, 1) := by decide +kernel
theorem d17_328 : decode method_4_code 328 = .ok (.bipush 22, 2) := by decide +kernel
theorem d17_330 : decode method_4_code 330 = .ok (.bipush 90, 2) := by decide +kernel
theorem d17_332 : decode method_4_code 332 = .ok (.castore, 1) := by decide +kernel
theorem d17_333 : decode method_4_code 333 = .ok (.dup, 1) := by decide +kernel
theorem d17_334 : decode method_4_code 334 = .ok (.bipush 23, 2) := by decide +kernel
theorem d17_336 : decode method_4_code 336 = .ok (.bipush 97, 2) := by decide +kernel
theorem d17_338 : decode method_4_code 338 = .ok (.castore, 1) := by decide +kernel
theorem d17_339 : decode method_4_code 339 = .ok (.dup, 1) := by decide +kernel
theorem d17_340 : decode method_4_code 340 = .ok (.bipush 24, 2) := by decide +kernel
theorem d17_342 : decode method_4_code 342 = .ok (.bipush 122, 2) := by decide +kernel
theorem d17_344 : decode method_4_code 344 = .ok (.castore, 1) := by decide +kernel
theorem d17_345 : decode method_4_code 345 = .ok (.dup, 1) := by decide +kernel
theorem d17_346 : decode method_4_code 346 = .ok (.bipush 25, 2) := by decide +kernel
theorem d17_348 : decode method_4_code 348 = .ok (.bipush 48, 2) := by decide +kernel
theorem d17_350 : decode method_4_code 350 = .ok (.castore, 1) := by decide +kernel
theorem d17_351 : decode method_4_code 351 = .ok (.dup, 1) := by decide +kernel
theorem d17_352 : decode method_4_code 352 = .ok (.bipush 26, 2) := by decide +kernel
theorem d17_354 : decode method_4_code 354 = .ok (.bipush 57, 2) := by decide +kernel
theorem d17_356 : decode method_4_code 356 = .ok (.castore, 1) := by decide +kernel
theorem d17_357 : decode method_4_code 357 = .ok (.dup, 1) := by decide +kernel
theorem d17_358 : decode method_4_code 358 = .ok (.bipush 27, 2) := by decide +kernel
theorem d17_360 : decode method_4_code 360 = .ok (.bipush 45, 2) := by decide +kernel
theorem d17_362 : decode method_4_code 362 = .ok (.castore, 1) := by decide +kernel
theorem d17_363 : decode method_4_code 363 = .ok (.dup, 1) := by decide +kernel
theorem d17_364 : decode method_4_code 364 = .ok (.bipush 28, 2) := by decide +kernel
theorem d17_366 : decode method_4_code 366 = .ok (.bipush 65, 2) := by decide +kernel
theorem d17_368 : decode method_4_code 368 = .ok (.castore, 1) := by decide +kernel
theorem d17_369 : decode method_4_code 369 = .ok (.dup, 1) := by decide +kernel
theorem d17_370 : decode method_4_code 370 = .ok (.bipush 29, 2) := by decide +kernel
theorem d17_372 : decode method_4_code 372 = .ok (.bipush 90, 2) := by decide +kernel
theorem d17_374 : decode method_4_code 374 = .ok (.castore, 1) := by decide +kernel
theorem d17_375 : decode method_4_code 375 = .ok (.dup, 1) := by decide +kernel
theorem d17_376 : decode method_4_code 376 = .ok (.bipush 30, 2) := by decide +kernel
theorem d17_378 : decode method_4_code 378 = .ok (.bipush 97, 2) := by decide +kernel
theorem d17_380 : decode method_4_code 380 = .ok (.castore, 1) := by decide +kernel
theorem d17_381 : decode method_4_code 381 = .ok (.dup, 1) := by decide +kernel
theorem d17_382 : decode method_4_code 382 = .ok (.bipush 31, 2) := by decide +kernel
theorem d17_384 : decode method_4_code 384 = .ok (.bipush 122, 2) := by decide +kernel
theorem d17_386 : decode method_4_code 386 = .ok (.castore, 1) := by decide +kernel
theorem d17_387 : decode method_4_code 387 = .ok (.dup, 1) := by decide +kernel
theorem d17_388 : decode method_4_code 388 = .ok (.bipush 32, 2) := by decide +kernel
theorem d17_390 : decode method_4_code 390 = .ok (.bipush 48, 2) := by decide +kernel
theorem d17_392 : decode method_4_code 392 = .ok (.castore, 1) := by decide +kernel
theorem d17_393 : decode method_4_code 393 = .ok (.areturn, 1) := by decide +kernel
theorem d17_394 : decode method_4_code 394 = .ok (.bipush 32, 2) := by decide +kernel
theorem d17_396 : decode method_4_code 396 = .ok (.newarray .char, 2) := by decide +kernel
theorem d17_398 : decode method_4_code 398 = .ok (.dup, 1) := by decide +kernel
theorem d17_399 : decode method_4_code 399 = .ok (.iconst 0, 1) := by decide +kernel
theorem d17_400 : decode method_4_code 400 = .ok (.bipush 65, 2) := by decide +kernel
theorem d17_402 : decode method_4_code 402 = .ok (.castore, 1) := by decide +kernel
theorem d17_403 : decode method_4_code 403 = .ok (.dup, 1) := by decide +kernel
theorem d17_404 : decode method_4_code 404 = .ok (.iconst 1, 1) := by decide +kernel
theorem d17_405 : decode method_4_code 405 = .ok (.bipush 90, 2) := by decide +kernel
theorem d17_407 : decode method_4_code 407 = .ok (.castore, 1) := by decide +kernel
theorem d17_408 : decode method_4_code 408 = .ok (.dup, 1) := by decide +kernel
theorem d17_409 : decode method_4_code 409 = .ok (.iconst 2, 1) := by decide +kernel
theorem d17_410 : decode method_4_code 410 = .ok (.bipush 97, 2) := by decide +kernel
theorem d17_412 : decode method_4_code 412 = .ok (.castore, 1) := by decide +kernel
theorem d17_413 : decode method_4_code 413 = .ok (.dup, 1) := by decide +kernel
theorem d17_414 : decode method_4_code 414 = .ok (.iconst 3, 1) := by decide +kernel
theorem d17_415 : decode method_4_code 415 = .ok (.bipush 122, 2) := by decide +kernel
theorem d17_417 : decode method_4_code 417 = .ok (.castore, 1) := by decide +kernel
theorem d17_418 : decode method_4_code 418 = .ok (.dup, 1) := by decide +kernel
theorem d17_419 : decode method_4_code 419 = .ok (.iconst 4, 1) := by decide +kernel
theorem d17_420 : decode method_4_code 420 = .ok (.bipush 48, 2) := by decide +kernel
theorem d17_422 : decode method_4_code 422 = .ok (.castore, 1) := by decide +kernel
theorem d17_423 : decode method_4_code 423 = .ok (.dup, 1) := by decide +kernel
theorem d17_424 : decode method_4_code 424 = .ok (.iconst 5, 1) := by decide +kernel
theorem d17_425 : decode method_4_code 425 = .ok (.bipush 57, 2) := by decide +kernel
theorem d17_427 : decode method_4_code 427 = .ok (.castore, 1) := by decide +kernel
theorem d17_428 : decode method_4_code 428 = .ok (.dup, 1) := by decide +kernel
theorem d17_429 : decode method_4_code 429 = .ok (.bipush 6, 2) := by decide +kernel
theorem d17_431 : decode method_4_code 431 = .ok (.bipush 45, 2) := by decide +kernel
theorem d17_433 : decode method_4_code 433 = .ok (.castore, 1) := by decide +kernel
theorem d17_434 : decode method_4_code 434 = .ok (.dup, 1) := by decide +kernel
theorem d17_435 : decode method_4_code 435 = .ok (.bipush 7, 2) := by decide +kernel
theorem d17_437 : decode method_4_code 437 = .ok (.bipush 65, 2) := by decide +kernel
theorem d17_439 : decode method_4_code 439 = .ok (.castore, 1) := by decide +kernel
theorem d17_440 : decode method_4_code 440 = .ok (.dup, 1) := by decide +kernel
theorem d17_441 : decode method_4_code 441 = .ok (.bipush 8, 2) := by decide +kernel
theorem d17_443 : decode method_4_code 443 = .ok (.bipush 90, 2) := by decide +kernel
theorem d17_445 : decode method_4_code 445 = .ok (.castore, 1) := by decide +kernel
theorem d17_446 : decode method_4_code 446 = .ok (.dup, 1) := by decide +kernel
theorem d17_447 : decode method_4_code 447 = .ok (.bipush 9, 2) := by decide +kernel
theorem d17_449 : decode method_4_code 449 = .ok (.bipush 97, 2) := by decide +kernel
theorem d17_451 : decode method_4_code 451 = .ok (.castore, 1) := by decide +kernel
theorem d17_452 : decode method_4_code 452 = .ok (.dup, 1) := by decide +kernel
theorem d17_453 : decode method_4_code 453 = .ok (.bipush 10, 2) := by decide +kernel
theorem d17_455 : decode method_4_code 455 = .ok (.bipush 122, 2) := by decide +kernel
theorem d17_457 : decode method_4_code 457 = .ok (.castore, 1) := by decide +kernel
theorem d17_458 : decode method_4_code 458 = .ok (.dup, 1) := by decide +kernel
theorem d17_459 : decode method_4_code 459 = .ok (.bipush 11, 2) := by decide +kernel
theorem d17_461 : decode method_4_code 461 = .ok (.bipush 48, 2) := by decide +kernel
theorem d17_463 : decode method_4_code 463 = .ok (.castore, 1) := by decide +kernel
theorem d17_464 : decode method_4_code 464 = .ok (.dup, 1) := by decide +kernel
theorem d17_465 : decode method_4_code 465 = .ok (.bipush 12, 2) := by decide +kernel
theorem d17_467 : decode method_4_code 467 = .ok (.bipush 57, 2) := by decide +kernel
theorem d17_469 : decode method_4_code 469 = .ok (.castore, 1) := by decide +kernel
theorem d17_470 : decode method_4_code 470 = .ok (.dup, 1) := by decide +kernel
theorem d17_471 : decode method_4_code 471 = .ok (.bipush 13, 2) := by decide +kernel
theorem d17_473 : decode method_4_code 473 = .ok (.bipush 45, 2) := by decide +kernel
theorem d17_475 : decode method_4_code 475 = .ok (.castore, 1) := by decide +kernel
theorem d17_476 : decode method_4_code 476 = .ok (.dup, 1) := by decide +kernel
theorem d17_477 : decode method_4_code 477 = .ok (.bipush 14, 2) := by decide +kernel
theorem d17_479 : decode method_4_code 479 = .ok (.bipush 65, 2) := by decide +kernel
theorem d17_481 : decode method_4_code 481 = .ok (.castore, 1) := by decide +kernel
theorem d17_482 : decode method_4_code 482 = .ok (.dup, 1) := by decide +kernel
theorem d17_483 : decode method_4_code 483 = .ok (.bipush 15, 2) := by decide +kernel
theorem d17_485 : decode method_4_code 485 = .ok (.bipush 90, 2) := by decide +kernel
theorem d17_487 : decode method_4_code 487 = .ok (.castore, 1) := by decide +kernel
theorem d17_488 : decode method_4_code 488 = .ok (.dup, 1) := by decide +kernel
theorem d17_489 : decode method_4_code 489 = .ok (.bipush 16, 2) := by decide +kernel
theorem d17_491 : decode method_4_code 491 = .ok (.bipush 97, 2) := by decide +kernel
theorem d17_493 : decode method_4_code 493 = .ok (.castore, 1) := by decide +kernel
theorem d17_494 : decode method_4_code 494 = .ok (.dup, 1) := by decide +kernel
theorem d17_495 : decode method_4_code 495 = .ok (.bipush 17, 2) := by decide +kernel
theorem d17_497 : decode method_4_code 497 = .ok (.bipush 122, 2) := by decide +kernel
theorem d17_499 : decode method_4_code 499 = .ok (.castore, 1) := by decide +kernel
theorem d17_500 : decode method_4_code 500 = .ok (.dup, 1) := by decide +kernel
theorem d17_501 : decode method_4_code 501 = .ok (.bipush 18, 2) := by decide +kernel
theorem d17_503 : decode method_4_code 503 = .ok (.bipush 48, 2) := by decide +kernel
theorem d17_505 : decode method_4_code 505 = .ok (.castore, 1) := by decide +kernel
theorem d17_506 : decode method_4_code 506 = .ok (.dup, 1) := by decide +kernel
theorem d17_507 : decode method_4_code 507 = .ok (.bipush 19, 2) := by decide +kernel
theorem d17_509 : decode method_4_code 509 = .ok (.bipush 57, 2) := by decide +kernel
theorem d17_511 : decode method_4_code 511 = .ok (.castore, 1) := by decide +kernel
theorem d17_512 : decode method_4_code 512 = .ok (.dup, 1) := by decide +kernel
theorem d17_513 : decode method_4_code 513 = .ok (.bipush 20, 2) := by decide +kernel
theorem d17_515 : decode method_4_code 515 = .ok (.bipush 45, 2) := by decide +kernel
theorem d17_517 : decode method_4_code 517 = .ok (.castore, 1) := by decide +kernel
theorem d17_518 : decode method_4_code 518 = .ok (.dup, 1) := by decide +kernel
theorem d17_519 : decode method_4_code 519 = .ok (.bipush 21, 2) := by decide +kernel
theorem d17_521 : decode method_4_code 521 = .ok (.bipush 65, 2) := by decide +kernel
theorem d17_523 : decode method_4_code 523 = .ok (.castore, 1) := by decide +kernel
theorem d17_524 : decode method_4_code 524 = .ok (.dup, 1) := by decide +kernel
theorem d17_525 : decode method_4_code 525 = .ok (.bipush 22, 2) := by decide +kernel
theorem d17_527 : decode method_4_code 527 = .ok (.bipush 90, 2) := by decide +kernel
theorem d17_529 : decode method_4_code 529 = .ok (.castore, 1) := by decide +kernel
theorem d17_530 : decode method_4_code 530 = .ok (.dup, 1) := by decide +kernel
theorem d17_531 : decode method_4_code 531 = .ok (.bipush 23, 2) := by decide +kernel
theorem d17_533 : decode method_4_code 533 = .ok (.bipush 97, 2) := by decide +kernel
theorem d17_535 : decode method_4_code 535 = .ok (.castore, 1) := by decide +kernel
theorem d17_536 : decode method_4_code 536 = .ok (.dup, 1) := by decide +kernel
theorem d17_537 : decode method_4_code 537 = .ok (.bipush 24, 2) := by decide +kernel
theorem d17_539 : decode method_4_code 539 = .ok (.bipush 122, 2) := by decide +kernel
theorem d17_541 : decode method_4_code 541 = .ok (.castore, 1) := by decide +kernel
theorem d17_542 : decode method_4_code 542 = .ok (.dup, 1) := by decide +kernel
theorem d17_543 : decode method_4_code 543 = .ok (.bipush 25, 2) := by decide +kernel
theorem d17_545 : decode method_4_code 545 = .ok (.bipush 48, 2) := by decide +kernel
theorem d17_547 : decode method_4_code 547 = .ok (.castore, 1) := by decide +kernel
theorem d17_548 : decode method_4_code 548 = .ok (.dup, 1) := by decide +kernel
theorem d17_549 : decode method_4_code 549 = .ok (.bipush 26, 2) := by decide +kernel
theorem d17_551 : decode method_4_code 551 = .ok (.bipush 57, 2) := by decide +kernel
theorem d17_553 : decode method_4_code 553 = .ok (.castore, 1) := by decide +kernel
theorem d17_554 : decode method_4_code 554 = .ok (.dup, 1) := by decide +kernel
theorem d17_555 : decode method_4_code 555 = .ok (.bipush 27, 2) := by decide +kernel
theorem d17_557 : decode method_4_code 557 = .ok (.bipush 45, 2) := by decide +kernel
theorem d17_559 : decode method_4_code 559 = .ok (.castore, 1) := by decide +kernel
theorem d17_560 : decode method_4_code 560 = .ok (.dup, 1) := by decide +kernel
theorem d17_561 : decode method_4_code 561 = .ok (.bipush 28, 2) := by decide +kernel
theorem d17_563 : decode method_4_code 563 = .ok (.bipush 65, 2) := by decide +kernel
theorem d17_565 : decode method_4_code 565 = .ok (.castore, 1) := by decide +kernel
theorem d17_566 : decode method_4_code 566 = .ok (.dup, 1) := by decide +kernel
theorem d17_567 : decode method_4_code 567 = .ok (.bipush 29, 2) := by decide +kernel
theorem d17_569 : decode method_4_code 569 = .ok (.bipush 90, 2) := by decide +kernel
theorem d17_571 : decode method_4_code 571 = .ok (.castore, 1) := by decide +kernel
theorem d17_572 : decode method_4_code 572 = .ok (.dup, 1) := by decide +kernel
theorem d17_573 : decode method_4_code 573 = .ok (.bipush 30, 2) := by decide +kernel
theorem d17_575 : decode method_4_code 575 = .ok (.bipush 97, 2) := by decide +kernel
theorem d17_577 : decode method_4_code 577 = .ok (.castore, 1) := by decide +kernel
theorem d17_578 : decode method_4_code 578 = .ok (.dup, 1) := by decide +kernel
theorem d17_579 : decode method_4_code 579 = .ok (.bipush 31, 2) := by decide +kernel
theorem d17_581 : decode method_4_code 581 = .ok (.bipush 122, 2) := by decide +kernel
theorem d17_583 : decode method_4_code 583 = .ok (.castore, 1) := by decide +kernel
theorem d17_584 : decode method_4_code 584 = .ok (.areturn, 1) := by decide +kernel
theorem pn_17 : plainName "com/example/lossfall/lossfall/model/CertificateClassIsValidNamePinLaw" = true := by first | (simp [plainName, overriddenIn]; done) | decide +kernel
theorem d8_0 : decode prog_26_method_2_code 0 = .ok (.aload_n 0, 1) := by decide +kernel
theorem d8_1 : decode prog_26_method_2_code 1 = .ok (.invokevirtual 44, 3) := by decide +kernel
theorem d8_4 : decode prog_26_method_2_code 4 = .ok (.ifCond .ne 12, 3) := by decide +kernel
theorem d8_7 : decode prog_26_method_2_code 7 = .ok (.aload_n 0, 1) := by decide +kernel
theorem d8_8 : decode prog_26_method_2_code 8 = .ok (.invokevirtual 50, 3) := by decide +kernel
theorem d8_11 : decode prog_26_method_2_code 11 = .ok (.bipush 32, 2) := by decide +kernel
theorem d8_13 : decode prog_26_method_2_code 13 = .ok (.if_icmp .le 5, 3) := by decide +kernel
theorem d8_16 : decode prog_26_method_2_code 16 = .ok (.iconst 0, 1) := by decide +kernel
theorem d8_17 : decode prog_26_method_2_code 17 = .ok (.ireturn, 1) := by decide +kernel
theorem d8_18 : decode prog_26_method_2_code 18 = .ok (.iconst 0, 1) := by decide +kernel
theorem d8_19 : decode prog_26_method_2_code 19 = .ok (.istore_n 1, 1) := by decide +kernel
theorem d8_20 : decode prog_26_method_2_code 20 = .ok (.iload_n 1, 1) := by decide +kernel
theorem d8_21 : decode prog_26_method_2_code 21 = .ok (.aload_n 0, 1) := by decide +kernel
theorem d8_22 : decode prog_26_method_2_code 22 = .ok (.invokevirtual 50, 3) := by decide +kernel
theorem d8_25 : decode prog_26_method_2_code 25 = .ok (.if_icmp .ge 69, 3) := by decide +kernel
theorem d8_28 : decode prog_26_method_2_code 28 = .ok (.aload_n 0, 1) := by decide +kernel
theorem d8_29 : decode prog_26_method_2_code 29 = .ok (.iload_n 1, 1) := by decide +kernel
theorem d8_30 : decode prog_26_method_2_code 30 = .ok (.invokevirtual 54, 3) := by decide +kernel
theorem d8_33 : decode prog_26_method_2_code 33 = .ok (.istore_n 2, 1) := by decide +kernel
theorem d8_34 : decode prog_26_method_2_code 34 = .ok (.iload_n 2, 1) := by decide +kernel
theorem d8_35 : decode prog_26_method_2_code 35 = .ok (.bipush 65, 2) := by decide +kernel
theorem d8_37 : decode prog_26_method_2_code 37 = .ok (.if_icmp .lt 9, 3) := by decide +kernel
theorem d8_40 : decode prog_26_method_2_code 40 = .ok (.iload_n 2, 1) := by decide +kernel
theorem d8_41 : decode prog_26_method_2_code 41 = .ok (.bipush 90, 2) := by decide +kernel
theorem d8_43 : decode prog_26_method_2_code 43 = .ok (.if_icmp .le 33, 3) := by decide +kernel
theorem d8_46 : decode prog_26_method_2_code 46 = .ok (.iload_n 2, 1) := by decide +kernel
theorem d8_47 : decode prog_26_method_2_code 47 = .ok (.bipush 97, 2) := by decide +kernel
theorem d8_49 : decode prog_26_method_2_code 49 = .ok (.if_icmp .lt 9, 3) := by decide +kernel
theorem d8_52 : decode prog_26_method_2_code 52 = .ok (.iload_n 2, 1) := by decide +kernel
theorem d8_53 : decode prog_26_method_2_code 53 = .ok (.bipush 122, 2) := by decide +kernel
theorem d8_55 : decode prog_26_method_2_code 55 = .ok (.if_icmp .le 21, 3) := by decide +kernel
theorem d8_58 : decode prog_26_method_2_code 58 = .ok (.iload_n 2, 1) := by decide +kernel
theorem d8_59 : decode prog_26_method_2_code 59 = .ok (.bipush 48, 2) := by decide +kernel
theorem d8_61 : decode prog_26_method_2_code 61 = .ok (.if_icmp .lt 9, 3) := by decide +kernel
theorem d8_64 : decode prog_26_method_2_code 64 = .ok (.iload_n 2, 1) := by decide +kernel
theorem d8_65 : decode prog_26_method_2_code 65 = .ok (.bipush 57, 2) := by decide +kernel
theorem d8_67 : decode prog_26_method_2_code 67 = .ok (.if_icmp .le 9, 3) := by decide +kernel
theorem d8_70 : decode prog_26_method_2_code 70 = .ok (.iload_n 2, 1) := by decide +kernel
theorem d8_71 : decode prog_26_method_2_code 71 = .ok (.bipush 45, 2) := by decide +kernel
theorem d8_73 : decode prog_26_method_2_code 73 = .ok (.if_icmp .ne 7, 3) := by decide +kernel
theorem d8_76 : decode prog_26_method_2_code 76 = .ok (.iconst 1, 1) := by decide +kernel
theorem d8_77 : decode prog_26_method_2_code 77 = .ok (.goto 4, 3) := by decide +kernel
theorem d8_80 : decode prog_26_method_2_code 80 = .ok (.iconst 0, 1) := by decide +kernel
theorem d8_81 : decode prog_26_method_2_code 81 = .ok (.istore_n 3, 1) := by decide +kernel
theorem d8_82 : decode prog_26_method_2_code 82 = .ok (.iload_n 3, 1) := by decide +kernel
theorem d8_83 : decode prog_26_method_2_code 83 = .ok (.ifCond .ne 5, 3) := by decide +kernel
theorem d8_86 : decode prog_26_method_2_code 86 = .ok (.iconst 0, 1) := by decide +kernel
theorem d8_87 : decode prog_26_method_2_code 87 = .ok (.ireturn, 1) := by decide +kernel
theorem d8_88 : decode prog_26_method_2_code 88 = .ok (.iinc 1 1, 3) := by decide +kernel
theorem d8_91 : decode prog_26_method_2_code 91 = .ok (.goto (-71), 3) := by decide +kernel
theorem d8_94 : decode prog_26_method_2_code 94 = .ok (.iconst 1, 1) := by decide +kernel
theorem d8_95 : decode prog_26_method_2_code 95 = .ok (.ireturn, 1) := by decide +kernel
theorem pn_8 : plainName "com/example/lossfall/lossfall/model/CertificateClass" = true := by first | (simp [plainName, overriddenIn]; done) | decide +kernel
theorem pn_0 : plainName "com/example/lossfall/lossfall/model/CertificateClassIsValidNamePinLaw" = true := by first | (simp [plainName, overriddenIn]; done) | decide +kernel
theorem pd_0 : parseMethodDescriptor "()B" = some ⟨[], some .byte⟩ := by decide +kernel
theorem pd_1 : parseMethodDescriptor "(IILjava/util/function/BiFunction;)I" = some ⟨[.int, .int, (.object "java/util/function/BiFunction")], some .int⟩ := by decide +kernel
theorem pd_2 : parseMethodDescriptor "(II)V" = some ⟨[.int, .int], none⟩ := by decide +kernel
theorem pd_3 : parseMethodDescriptor "([B)I" = some ⟨[(.array .byte)], some .int⟩ := by decide +kernel
theorem pd_4 : parseMethodDescriptor "(I[B)V" = some ⟨[.int, (.array .byte)], none⟩ := by decide +kernel
theorem pd_5 : parseMethodDescriptor "([BI)C" = some ⟨[(.array .byte), .int], some .char⟩ := by decide +kernel
theorem pd_6 : parseMethodDescriptor "()Z" = some ⟨[], some .boolean⟩ := by decide +kernel
theorem pd_7 : parseMethodDescriptor "(I)I" = some ⟨[.int], some .int⟩ := by decide +kernel
theorem pd_8 : parseMethodDescriptor "(I)[B" = some ⟨[.int], some (.array .byte)⟩ := by decide +kernel
theorem pd_9 : parseMethodDescriptor "([BII)V" = some ⟨[(.array .byte), .int, .int], none⟩ := by decide +kernel
theorem pd_10 : parseMethodDescriptor "([CI[BII)I" = some ⟨[(.array .char), .int, (.array .byte), .int, .int], some .int⟩ := by decide +kernel
theorem pd_11 : parseMethodDescriptor "([CII)[B" = some ⟨[(.array .char), .int, .int], some (.array .byte)⟩ := by decide +kernel
theorem pd_12 : parseMethodDescriptor "([BI)B" = some ⟨[(.array .byte), .int], some .byte⟩ := by decide +kernel
theorem pd_13 : parseMethodDescriptor "([CIILjava/lang/Void;)V" = some ⟨[(.array .char), .int, .int, (.object "java/lang/Void")], none⟩ := by decide +kernel
theorem pd_14 : parseMethodDescriptor "()I" = some ⟨[], some .int⟩ := by decide +kernel
theorem pd_15 : parseMethodDescriptor "(I)C" = some ⟨[.int], some .char⟩ := by decide +kernel
theorem pd_16 : parseMethodDescriptor "([C)V" = some ⟨[(.array .char)], none⟩ := by decide +kernel
theorem pd_17 : parseMethodDescriptor "(Ljava/lang/String;)Z" = some ⟨[(.object "java/lang/String")], some .boolean⟩ := by decide +kernel
theorem pd_18 : parseMethodDescriptor "(C)Z" = some ⟨[.char], some .boolean⟩ := by decide +kernel
theorem pd_19 : parseMethodDescriptor "(I)[C" = some ⟨[.int], some (.array .char)⟩ := by decide +kernel
theorem ef_11 (m : MethodId) (x0 : Addr) : entryFrame m #[(.ref x0)] 1 = mkF m 0 #[.val (.ref x0)] [] := by first | (simp [entryFrame, mkF, argsToLocals, Value.category]; done) | rfl
def Q11 (Z : State) (a1 : Addr) (cs : Int32) (fv : Value) (d : Int32) (h0 : Heap) (n0 : Nat) (v : Option Value) (h : Heap) (L : List Loc) : Prop := v = some (.int d) ∧ Fr n0 L ∧ h = h0
set_option maxRecDepth 65536 in
set_option maxHeartbeats 40000000 in
theorem rm11 (l : Launch) (Z : State) (a0 : Array Value) (hw : ∀ d ∈ tables_1, d.before a0 Z = true) (ws : List Jvm.Cond) (a1 : Addr) (cs : Int32) (fv : Value) (d : Int32) (h0 : Heap) (n0 : Nat) (Z0 : n0 ≤ h0.size) (ST : own_St Z h0 cs fv) (F_c : Fld Z h0 a1 "java/lang/String" "coder" "B" (.int d)) (hd : nar .byte d = d) :
    MetFree l (⟨"java/lang/String", "coder", "()B"⟩ : MethodName) (head1 (Jvm.Cond.code (⟨"java/lang/String", "coder", "()B"⟩ : MethodName) jdk_42_method_152_code 1 (some .byte) :: ws) ({ frames := 0, cells := 0, slots := 0, locals := 0 } : Room)) (fun a U => a = #[(.ref a1)] ∧ Z.Warmed39 U.vm ∧ U.heap = h0) (fun _ _ _ _ _ => True) (fun _ U o U' => ∃ v L, o = .returned v ∧ Q11 Z a1 cs fv d h0 n0 v U'.heap L ∧ FrameEnd U o U' L ({ frames := 0, cells := 0, slots := 0, locals := 0 } : Room).cells ({ frames := 0, cells := 0, slots := 0, locals := 0 } : Room).slots) := by
  refine MetFree.of_bodySF (plainFor_of_name pn_11) hisR ?_
  intro p e s m args below meth c s₁ Bd hml0 hP hK
  obtain ⟨rfl, hZ, hh⟩ := hP
  have hx := Bd.exec
  have hby := Bd.bytes
  have hml : c.maxLocals = 1 := hml0
  have hown : s.vm.findClass "java/lang/String" = some m.cls := findClass_of_methodNamed Bd.named
  have hnm := (name_of_methodNamed Bd.named Bd.method).1
  have X0 : Stand p l e ({ frames := 0, cells := 0, slots := 0, locals := 0 } : Room) s m #[(.ref a1)] below meth c s₁ [] 0 0 := Stand.of_body Bd
  have e0 : s₁.heap = h0 := by rw [← hh, Bd.state]; rfl
  have N0 := Fr.nil n0
  show EndsQ p.tables e below s (fun v h L => Q11 Z a1 cs fv d h0 n0 v h L) ({ frames := 0, cells := 0, slots := 0, locals := 0 } : Room).cells ({ frames := 0, cells := 0, slots := 0, locals := 0 } : Room).slots _
  refine EndsQ.go (b := s₁.setTop (mkF m 0 #[.val (.ref a1)] [])) (fun t k => castTop (ef_11 m a1) k) ?_
  obtain ⟨S_C, hcs, S_F, hfv, S_A, S_H, S_L⟩ := ST
  obtain ⟨T101, X101, e101, st101⟩ := getS X0 hx hZ hown (host := "") (own_w hw 19 rfl) Via.refl e0 S_C (g := (mkF m 0 #[.val (.ref a1)] [])) rfl (hb hby d11_0)
  refine EndsQ.go st101 ?_
  show EndsQ _ _ _ _ _ _ _ (T101.setTop (mkF m 3 #[.val (.ref a1)] [(.int cs)]))
  refine EndsQ.go (b := T101.setTop (mkF m 7 #[.val (.ref a1)] [(.ref a1)])) (fun t k => ?_) ?_
  · show Steps p.tables e below (T101.setTop (mkF m 3 #[.val (.ref a1)] [(.int cs)])) _
    refine XS.ifNo X101.here hx rfl (hb hby d11_3) rfl ((if0 _ _).trans (feq hcs).1) ?_
    show Steps p.tables e below (T101.setTop (mkF m 6 #[.val (.ref a1)] [])) _
    refine XS.aloadN X101.here hx rfl (hb hby d11_6) rfl rfl ?_
    exact k
  obtain ⟨T102, X102, e102, st102⟩ := getF X101 hx hZ hown (host := "") (Or.inl (own_w hw 31 rfl)) Via.refl e101 F_c (g := (mkF m 7 #[.val (.ref a1)] [(.ref a1)])) rfl rfl (hb hby d11_7)
  refine EndsQ.go st102 ?_
  show EndsQ _ _ _ _ _ _ _ (T102.setTop (mkF m 10 #[.val (.ref a1)] [(.int d)]))
  refine EndsQ.go (b := T102.setTop (mkF m 14 #[.val (.ref a1)] [(.int d)])) (fun t k => ?_) ?_
  · show Steps p.tables e below (T102.setTop (mkF m 10 #[.val (.ref a1)] [(.int d)])) _
    refine XS.goto X102.here hx rfl (pc0 := 10) (pc' := 14) rfl (hb hby d11_10) (by decide) (by decide) ?_
    exact k
  refine EndsQ.retN X102 hx Bd.notSynchronized (t := .byte) Bd.returns (by simp) (hb hby d11_14) (by decide) (by decide) ?_
  show Q11 Z a1 cs fv d h0 n0 (some (.int (nar .byte d))) T102.heap _
  rw [e102]
  exact ⟨congrArg (fun z => some (Value.int z)) hd, N0, rfl⟩
theorem ef_13 (m : MethodId) (x0 : Addr) : entryFrame m #[(.ref x0)] 1 = mkF m 0 #[.val (.ref x0)] [] := by first | (simp [entryFrame, mkF, argsToLocals, Value.category]; done) | rfl
def Q13 (Z : State) (a1 : Addr) (cs : Int32) (fv : Value) (d : Int32) (r : Int32) (h0 : Heap) (n0 : Nat) (v : Option Value) (h : Heap) (L : List Loc) : Prop := v = some (.int r) ∧ Fr n0 L ∧ h = h0
set_option maxRecDepth 65536 in
set_option maxHeartbeats 40000000 in
theorem rm13 (l : Launch) (Z : State) (a0 : Array Value) (hw : ∀ d ∈ tables_1, d.before a0 Z = true) (ws : List Jvm.Cond) (a1 : Addr) (cs : Int32) (fv : Value) (d : Int32) (r : Int32) (h0 : Heap) (n0 : Nat) (Z0 : n0 ≤ h0.size) (ST : own_St Z h0 cs fv) (F_c : Fld Z h0 a1 "java/lang/String" "coder" "B" (.int d)) (hr : own_isl d = r) :
    MetFree l (⟨"java/lang/String", "isLatin1", "()Z"⟩ : MethodName) (head1 (Jvm.Cond.code (⟨"java/lang/String", "isLatin1", "()Z"⟩ : MethodName) jdk_42_method_154_code 1 (some .boolean) :: ws) ({ frames := 0, cells := 0, slots := 0, locals := 0 } : Room)) (fun a U => a = #[(.ref a1)] ∧ Z.Warmed39 U.vm ∧ U.heap = h0) (fun _ _ _ _ _ => True) (fun _ U o U' => ∃ v L, o = .returned v ∧ Q13 Z a1 cs fv d r h0 n0 v U'.heap L ∧ FrameEnd U o U' L ({ frames := 0, cells := 0, slots := 0, locals := 0 } : Room).cells ({ frames := 0, cells := 0, slots := 0, locals := 0 } : Room).slots) := by
  refine MetFree.of_bodySF (plainFor_of_name pn_13) hisR ?_
  intro p e s m args below meth c s₁ Bd hml0 hP hK
  obtain ⟨rfl, hZ, hh⟩ := hP
  have hx := Bd.exec
  have hby := Bd.bytes
  have hml : c.maxLocals = 1 := hml0
  have hown : s.vm.findClass "java/lang/String" = some m.cls := findClass_of_methodNamed Bd.named
  have hnm := (name_of_methodNamed Bd.named Bd.method).1
  have X0 : Stand p l e ({ frames := 0, cells := 0, slots := 0, locals := 0 } : Room) s m #[(.ref a1)] below meth c s₁ [] 0 0 := Stand.of_body Bd
  have e0 : s₁.heap = h0 := by rw [← hh, Bd.state]; rfl
  have N0 := Fr.nil n0
  show EndsQ p.tables e below s (fun v h L => Q13 Z a1 cs fv d r h0 n0 v h L) ({ frames := 0, cells := 0, slots := 0, locals := 0 } : Room).cells ({ frames := 0, cells := 0, slots := 0, locals := 0 } : Room).slots _
  refine EndsQ.go (b := s₁.setTop (mkF m 0 #[.val (.ref a1)] [])) (fun t k => castTop (ef_13 m a1) k) ?_
  obtain ⟨S_C, hcs, S_F, hfv, S_A, S_H, S_L⟩ := ST
  obtain ⟨T101, X101, e101, st101⟩ := getS X0 hx hZ hown (host := "") (own_w hw 19 rfl) Via.refl e0 S_C (g := (mkF m 0 #[.val (.ref a1)] [])) rfl (hb hby d13_0)
  refine EndsQ.go st101 ?_
  show EndsQ _ _ _ _ _ _ _ (T101.setTop (mkF m 3 #[.val (.ref a1)] [(.int cs)]))
  refine EndsQ.go (b := T101.setTop (mkF m 7 #[.val (.ref a1)] [(.ref a1)])) (fun t k => ?_) ?_
  · show Steps p.tables e below (T101.setTop (mkF m 3 #[.val (.ref a1)] [(.int cs)])) _
    refine XS.ifNo X101.here hx rfl (hb hby d13_3) rfl ((if0 _ _).trans (feq hcs).1) ?_
    show Steps p.tables e below (T101.setTop (mkF m 6 #[.val (.ref a1)] [])) _
    refine XS.aloadN X101.here hx rfl (hb hby d13_6) rfl rfl ?_
    exact k
  obtain ⟨T102, X102, e102, st102⟩ := getF X101 hx hZ hown (host := "") (Or.inl (own_w hw 31 rfl)) Via.refl e101 F_c (g := (mkF m 7 #[.val (.ref a1)] [(.ref a1)])) rfl rfl (hb hby d13_7)
  refine EndsQ.go st102 ?_
  show EndsQ _ _ _ _ _ _ _ (T102.setTop (mkF m 10 #[.val (.ref a1)] [(.int d)]))
  by_cases hc10_103 : d = (0 : Int32)
  · refine EndsQ.go (b := T102.setTop (mkF m 13 #[.val (.ref a1)] [])) (fun t k => ?_) ?_
    · show Steps p.tables e below (T102.setTop (mkF m 10 #[.val (.ref a1)] [(.int d)])) _
      refine XS.ifNo X102.here hx rfl (hb hby d13_10) rfl ((if0 _ _).trans (teq hc10_103).2) ?_
      show Steps p.tables e below (T102.setTop (mkF m 13 #[.val (.ref a1)] [])) _
      exact k
    refine EndsQ.go (b := T102.setTop (mkF m 18 #[.val (.ref a1)] [(.int (1 : Int32))])) (fun t k => ?_) ?_
    · show Steps p.tables e below (T102.setTop (mkF m 13 #[.val (.ref a1)] [])) _
      refine XS.iconst X102.here hx rfl (hb hby d13_13) ?_
      refine XS.goto X102.here hx rfl (pc0 := 14) (pc' := 18) rfl (hb hby d13_14) (by decide) (by decide) ?_
      exact k
    refine EndsQ.retN X102 hx Bd.notSynchronized (t := .boolean) Bd.returns (by simp) (hb hby d13_18) (by decide) (by decide) ?_
    show Q13 Z a1 cs fv d r h0 n0 (some (.int (nar .boolean (1 : Int32)))) T102.heap _
    rw [e102]
    exact ⟨congrArg (fun z => some (Value.int z)) (show nar .boolean (1 : Int32) = r by rw [← hr]; unfold own_isl; rw [if_pos hc10_103]; rfl), N0, rfl⟩
  · refine EndsQ.go (b := T102.setTop (mkF m 17 #[.val (.ref a1)] [])) (fun t k => ?_) ?_
    · show Steps p.tables e below (T102.setTop (mkF m 10 #[.val (.ref a1)] [(.int d)])) _
      refine XS.ifYes X102.here hx rfl (pc0 := 10) (pc' := 17) rfl (hb hby d13_10) rfl ((if0 _ _).trans (feq hc10_103).2) (by decide) (by decide) ?_
      show Steps p.tables e below (T102.setTop (mkF m 17 #[.val (.ref a1)] [])) _
      exact k
    refine EndsQ.go (b := T102.setTop (mkF m 18 #[.val (.ref a1)] [(.int (0 : Int32))])) (fun t k => ?_) ?_
    · show Steps p.tables e below (T102.setTop (mkF m 17 #[.val (.ref a1)] [])) _
      refine XS.iconst X102.here hx rfl (hb hby d13_17) ?_
      show Steps p.tables e below (T102.setTop (mkF m 18 #[.val (.ref a1)] [(.int (0 : Int32))])) _
      exact k
    refine EndsQ.retN X102 hx Bd.notSynchronized (t := .boolean) Bd.returns (by simp) (hb hby d13_18) (by decide) (by decide) ?_
    show Q13 Z a1 cs fv d r h0 n0 (some (.int (nar .boolean (0 : Int32)))) T102.heap _
    rw [e102]
    exact ⟨congrArg (fun z => some (Value.int z)) (show nar .boolean (0 : Int32) = r by rw [← hr]; unfold own_isl; rw [if_neg hc10_103]; rfl), N0, rfl⟩
theorem ef_9 (m : MethodId) (x0 : Addr) : entryFrame m #[(.ref x0)] 1 = mkF m 0 #[.val (.ref x0)] [] := by first | (simp [entryFrame, mkF, argsToLocals, Value.category]; done) | rfl
def Q9 (Z : State) (a1 : Addr) (b : Addr) (k : ClassId) (n : Int32) (f : Nat → Value) (r : Int32) (h0 : Heap) (n0 : Nat) (v : Option Value) (h : Heap) (L : List Loc) : Prop := v = some (.int r) ∧ Fr n0 L ∧ h = h0
set_option maxRecDepth 65536 in
set_option maxHeartbeats 40000000 in
theorem rm9 (l : Launch) (Z : State) (a0 : Array Value) (hw : ∀ d ∈ tables_1, d.before a0 Z = true) (ws : List Jvm.Cond) (a1 : Addr) (b : Addr) (k : ClassId) (n : Int32) (f : Nat → Value) (r : Int32) (h0 : Heap) (n0 : Nat) (Z0 : n0 ≤ h0.size) (F_v : Fld Z h0 a1 "java/lang/String" "value" "[B" (.ref b)) (G1 : Arf Z h0 b k .byte n f) (hr : own_isl n = r) :
    MetFree l (⟨"java/lang/String", "isEmpty", "()Z"⟩ : MethodName) (head1 (Jvm.Cond.code (⟨"java/lang/String", "isEmpty", "()Z"⟩ : MethodName) jdk_42_method_55_code 1 (some .boolean) :: ws) ({ frames := 0, cells := 0, slots := 0, locals := 0 } : Room)) (fun a U => a = #[(.ref a1)] ∧ Z.Warmed39 U.vm ∧ U.heap = h0) (fun _ _ _ _ _ => True) (fun _ U o U' => ∃ v L, o = .returned v ∧ Q9 Z a1 b k n f r h0 n0 v U'.heap L ∧ FrameEnd U o U' L ({ frames := 0, cells := 0, slots := 0, locals := 0 } : Room).cells ({ frames := 0, cells := 0, slots := 0, locals := 0 } : Room).slots) := by
  refine MetFree.of_bodySF (plainFor_of_name pn_9) hisR ?_
  intro p e s m args below meth c s₁ Bd hml0 hP hK
  obtain ⟨rfl, hZ, hh⟩ := hP
  have hx := Bd.exec
  have hby := Bd.bytes
  have hml : c.maxLocals = 1 := hml0
  have hown : s.vm.findClass "java/lang/String" = some m.cls := findClass_of_methodNamed Bd.named
  have hnm := (name_of_methodNamed Bd.named Bd.method).1
  have X0 : Stand p l e ({ frames := 0, cells := 0, slots := 0, locals := 0 } : Room) s m #[(.ref a1)] below meth c s₁ [] 0 0 := Stand.of_body Bd
  have e0 : s₁.heap = h0 := by rw [← hh, Bd.state]; rfl
  have N0 := Fr.nil n0
  show EndsQ p.tables e below s (fun v h L => Q9 Z a1 b k n f r h0 n0 v h L) ({ frames := 0, cells := 0, slots := 0, locals := 0 } : Room).cells ({ frames := 0, cells := 0, slots := 0, locals := 0 } : Room).slots _
  refine EndsQ.go (b := s₁.setTop (mkF m 0 #[.val (.ref a1)] [])) (fun t k => castTop (ef_9 m a1) k) ?_
  refine EndsQ.go (b := s₁.setTop (mkF m 1 #[.val (.ref a1)] [(.ref a1)])) (fun t k => ?_) ?_
  · show Steps p.tables e below (s₁.setTop (mkF m 0 #[.val (.ref a1)] [])) _
    refine XS.aloadN X0.here hx rfl (hb hby d9_0) rfl rfl ?_
    exact k
  obtain ⟨T101, X101, e101, st101⟩ := getF X0 hx hZ hown (host := "") (Or.inl (own_w hw 33 rfl)) Via.refl e0 F_v (g := (mkF m 1 #[.val (.ref a1)] [(.ref a1)])) rfl rfl (hb hby d9_1)
  refine EndsQ.go st101 ?_
  show EndsQ _ _ _ _ _ _ _ (T101.setTop (mkF m 4 #[.val (.ref a1)] [(.ref b)]))
  obtain ⟨cl102, Ar102, -, S102, M102, -, -⟩ := id G1
  refine EndsQ.go (fun t k => X101.arraylength hx (by rw [e101]; exact Ar102.1) (State.isArrayOf_alike hZ.alike Ar102.2.1) (g := (mkF m 4 #[.val (.ref a1)] [(.ref b)])) rfl rfl (hb hby d9_4) _ k) ?_
  rw [len_of S102 M102]
  show EndsQ _ _ _ _ _ _ _ (T101.setTop (mkF m 5 #[.val (.ref a1)] [(.int n)]))
  by_cases hc5_103 : n = (0 : Int32)
  · refine EndsQ.go (b := T101.setTop (mkF m 8 #[.val (.ref a1)] [])) (fun t k => ?_) ?_
    · show Steps p.tables e below (T101.setTop (mkF m 5 #[.val (.ref a1)] [(.int n)])) _
      refine XS.ifNo X101.here hx rfl (hb hby d9_5) rfl ((if0 _ _).trans (teq hc5_103).2) ?_
      show Steps p.tables e below (T101.setTop (mkF m 8 #[.val (.ref a1)] [])) _
      exact k
    refine EndsQ.go (b := T101.setTop (mkF m 13 #[.val (.ref a1)] [(.int (1 : Int32))])) (fun t k => ?_) ?_
    · show Steps p.tables e below (T101.setTop (mkF m 8 #[.val (.ref a1)] [])) _
      refine XS.iconst X101.here hx rfl (hb hby d9_8) ?_
      refine XS.goto X101.here hx rfl (pc0 := 9) (pc' := 13) rfl (hb hby d9_9) (by decide) (by decide) ?_
      exact k
    refine EndsQ.retN X101 hx Bd.notSynchronized (t := .boolean) Bd.returns (by simp) (hb hby d9_13) (by decide) (by decide) ?_
    show Q9 Z a1 b k n f r h0 n0 (some (.int (nar .boolean (1 : Int32)))) T101.heap _
    rw [e101]
    exact ⟨congrArg (fun z => some (Value.int z)) (show nar .boolean (1 : Int32) = r by rw [← hr]; unfold own_isl; rw [if_pos hc5_103]; rfl), N0, rfl⟩
  · refine EndsQ.go (b := T101.setTop (mkF m 12 #[.val (.ref a1)] [])) (fun t k => ?_) ?_
    · show Steps p.tables e below (T101.setTop (mkF m 5 #[.val (.ref a1)] [(.int n)])) _
      refine XS.ifYes X101.here hx rfl (pc0 := 5) (pc' := 12) rfl (hb hby d9_5) rfl ((if0 _ _).trans (feq hc5_103).2) (by decide) (by decide) ?_
      show Steps p.tables e below (T101.setTop (mkF m 12 #[.val (.ref a1)] [])) _
      exact k
    refine EndsQ.go (b := T101.setTop (mkF m 13 #[.val (.ref a1)] [(.int (0 : Int32))])) (fun t k => ?_) ?_
    · show Steps p.tables e below (T101.setTop (mkF m 12 #[.val (.ref a1)] [])) _
      refine XS.iconst X101.here hx rfl (hb hby d9_12) ?_
      show Steps p.tables e below (T101.setTop (mkF m 13 #[.val (.ref a1)] [(.int (0 : Int32))])) _
      exact k
    refine EndsQ.retN X101 hx Bd.notSynchronized (t := .boolean) Bd.returns (by simp) (hb hby d9_13) (by decide) (by decide) ?_
    show Q9 Z a1 b k n f r h0 n0 (some (.int (nar .boolean (0 : Int32)))) T101.heap _
    rw [e101]
    exact ⟨congrArg (fun z => some (Value.int z)) (show nar .boolean (0 : Int32) = r by rw [← hr]; unfold own_isl; rw [if_neg hc5_103]; rfl), N0, rfl⟩
theorem ef_10 (m : MethodId) (x0 : Addr) : entryFrame m #[(.ref x0)] 1 = mkF m 0 #[.val (.ref x0)] [] := by first | (simp [entryFrame, mkF, argsToLocals, Value.category]; done) | rfl
def Q10 (Z : State) (a1 : Addr) (cs : Int32) (fv : Value) (b : Addr) (k : ClassId) (n : Int32) (f : Nat → Value) (d : Int32) (r : Int32) (h0 : Heap) (n0 : Nat) (v : Option Value) (h : Heap) (L : List Loc) : Prop := v = some (.int r) ∧ Fr n0 L ∧ h = h0
set_option maxRecDepth 65536 in
set_option maxHeartbeats 40000000 in
theorem rm10 (l : Launch) (Z : State) (a0 : Array Value) (hw : ∀ d ∈ tables_1, d.before a0 Z = true) (ws : List Jvm.Cond) (a1 : Addr) (cs : Int32) (fv : Value) (b : Addr) (k : ClassId) (n : Int32) (f : Nat → Value) (d : Int32) (r : Int32) (h0 : Heap) (n0 : Nat) (Z0 : n0 ≤ h0.size) (ST : own_St Z h0 cs fv) (E1 : Exa Z h0 a1 "java/lang/String") (F_v : Fld Z h0 a1 "java/lang/String" "value" "[B" (.ref b)) (F_c : Fld Z h0 a1 "java/lang/String" "coder" "B" (.int d)) (G1 : Arf Z h0 b k .byte n f) (hd : nar .byte d = d) (hr : (n >>> (d &&& 31)) = r) :
    MetFree l (⟨"java/lang/String", "length", "()I"⟩ : MethodName) (head1 (Jvm.Cond.code (⟨"java/lang/String", "length", "()I"⟩ : MethodName) jdk_42_method_54_code 1 (some .int) :: ws) ({ frames := 1, cells := 0, slots := 0, locals := 16 } : Room)) (fun a U => a = #[(.ref a1)] ∧ Z.Warmed39 U.vm ∧ U.heap = h0) (fun _ _ _ _ _ => True) (fun _ U o U' => ∃ v L, o = .returned v ∧ Q10 Z a1 cs fv b k n f d r h0 n0 v U'.heap L ∧ FrameEnd U o U' L ({ frames := 1, cells := 0, slots := 0, locals := 16 } : Room).cells ({ frames := 1, cells := 0, slots := 0, locals := 16 } : Room).slots) := by
  refine MetFree.of_bodySF (plainFor_of_name pn_10) hisR ?_
  intro p e s m args below meth c s₁ Bd hml0 hP hK
  obtain ⟨rfl, hZ, hh⟩ := hP
  have hx := Bd.exec
  have hby := Bd.bytes
  have hml : c.maxLocals = 1 := hml0
  have hown : s.vm.findClass "java/lang/String" = some m.cls := findClass_of_methodNamed Bd.named
  have hnm := (name_of_methodNamed Bd.named Bd.method).1
  have X0 : Stand p l e ({ frames := 1, cells := 0, slots := 0, locals := 16 } : Room) s m #[(.ref a1)] below meth c s₁ [] 0 0 := Stand.of_body Bd
  have e0 : s₁.heap = h0 := by rw [← hh, Bd.state]; rfl
  have N0 := Fr.nil n0
  show EndsQ p.tables e below s (fun v h L => Q10 Z a1 cs fv b k n f d r h0 n0 v h L) ({ frames := 1, cells := 0, slots := 0, locals := 16 } : Room).cells ({ frames := 1, cells := 0, slots := 0, locals := 16 } : Room).slots _
  refine EndsQ.go (b := s₁.setTop (mkF m 0 #[.val (.ref a1)] [])) (fun t k => castTop (ef_10 m a1) k) ?_
  obtain ⟨S_C, hcs, S_F, hfv, S_A, S_H, S_L⟩ := ST
  refine EndsQ.go (b := s₁.setTop (mkF m 1 #[.val (.ref a1)] [(.ref a1)])) (fun t k => ?_) ?_
  · show Steps p.tables e below (s₁.setTop (mkF m 0 #[.val (.ref a1)] [])) _
    refine XS.aloadN X0.here hx rfl (hb hby d10_0) rfl rfl ?_
    exact k
  obtain ⟨T101, X101, e101, st101⟩ := getF X0 hx hZ hown (host := "") (Or.inl (own_w hw 33 rfl)) Via.refl e0 F_v (g := (mkF m 1 #[.val (.ref a1)] [(.ref a1)])) rfl rfl (hb hby d10_1)
  refine EndsQ.go st101 ?_
  show EndsQ _ _ _ _ _ _ _ (T101.setTop (mkF m 4 #[.val (.ref a1)] [(.ref b)]))
  obtain ⟨cl102, Ar102, -, S102, M102, -, -⟩ := id G1
  refine EndsQ.go (fun t k => X101.arraylength hx (by rw [e101]; exact Ar102.1) (State.isArrayOf_alike hZ.alike Ar102.2.1) (g := (mkF m 4 #[.val (.ref a1)] [(.ref b)])) rfl rfl (hb hby d10_4) _ k) ?_
  rw [len_of S102 M102]
  show EndsQ _ _ _ _ _ _ _ (T101.setTop (mkF m 5 #[.val (.ref a1)] [(.int n)]))
  refine EndsQ.go (b := T101.setTop (mkF m 6 #[.val (.ref a1)] [(.ref a1), (.int n)])) (fun t k => ?_) ?_
  · show Steps p.tables e below (T101.setTop (mkF m 5 #[.val (.ref a1)] [(.int n)])) _
    refine XS.aloadN X101.here hx rfl (hb hby d10_5) rfl rfl ?_
    exact k
  obtain ⟨cq103, kq103, qa103, qb103, qc103⟩ := isOf hZ e101 E1
  obtain ⟨_, _, ⟨T103, L103, kk103, nn103⟩, -, X103, ⟨Lc103, hQ103, l103, y103, z103⟩, st103⟩ := X101.virtualBack hx (y := (⟨"java/lang/String", "coder", "()B"⟩ : MethodName)) (z := (⟨"java/lang/String", "coder", "()B"⟩ : MethodName)) hown (mvT hZ (own_w hw 49 rfl)) (mvT hZ (own_w hw 50 rfl)) (notFace_of_selects (args := #[]) (mvT hZ (own_w hw 52 rfl))) (mvT hZ (own_w hw 52 rfl)) (mvT hZ (own_w hw 51 rfl)) (by decide) (backOf (W := 1) (rm11 l Z a0 hw [] a1 cs fv d h0 n0 Z0 ⟨S_C, hcs, S_F, hfv, S_A, S_H, S_L⟩ F_c hd) hZ (own_w hw 53 rfl) (own_w hw 8 rfl) (by decide) (by decide)) qa103 qc103 (g := (mkF m 6 #[.val (.ref a1)] [(.ref a1), (.int n)])) rfl (by rw [hml]; rfl) (Steps.refl _) (argsL := []) (rest := [(.int n)]) (lenOf pd_0 rfl) rfl (by show 2 * 0 + _ ≤ _; exact Nat.le_of_eq rfl) (hb hby d10_6) (fun _ _ => ⟨rfl, e101, (by decide : 0 + 0 ≤ _), (by decide : 0 + 0 ≤ _)⟩)
  dsimp only [Pt.U, Pt.locs, Pt.cells, Pt.slots] at X103 l103 y103 z103 st103 hQ103
  subst l103 y103 z103
  obtain ⟨rfl, Nq103, eq103⟩ := hQ103
  have N103 := Fr.app N0 Nq103
  refine EndsQ.go (fun t k => st103.trans k) ?_
  show EndsQ _ _ _ _ _ _ _ (T103.setTop (mkF m 9 #[.val (.ref a1)] [(.int d), (.int n)]))
  refine EndsQ.go (b := T103.setTop (mkF m 10 #[.val (.ref a1)] [(.int (n >>> (d &&& 31)))])) (fun t k => ?_) ?_
  · show Steps p.tables e below (T103.setTop (mkF m 9 #[.val (.ref a1)] [(.int d), (.int n)])) _
    refine XS.ishr X103.here hx rfl (hb hby d10_9) rfl ?_
    exact k
  refine EndsQ.retI X103 hx Bd.notSynchronized Bd.returns (hb hby d10_10) (by decide) (by decide) ?_
  show Q10 Z a1 cs fv b k n f d r h0 n0 (some (.int (n >>> (d &&& 31)))) T103.heap _
  rw [eq103]
  exact ⟨congrArg (fun z => some (Value.int z)) hr, N103, rfl⟩
theorem ef_PcR (m : MethodId) (x0 : Int32) (x1 : Int32) (x2 : Addr) : entryFrame m #[(.int x0), (.int x1), (.ref x2)] 3 = mkF m 0 #[.val (.int x0), .val (.int x1), .val (.ref x2)] [] := by first | (simp [entryFrame, mkF, argsToLocals, Value.category]; done) | rfl
def QPcR (Z : State) (p1 : Int32) (p2 : Int32) (a3 : Addr) (h0 : Heap) (n0 : Nat) (v : Option Value) (h : Heap) (L : List Loc) : Prop := v = some (.int p1) ∧ Fr n0 L ∧ h = h0
set_option maxRecDepth 65536 in
set_option maxHeartbeats 40000000 in
theorem rmPcR (l : Launch) (Z : State) (a0 : Array Value) (hw : ∀ d ∈ tables_1, d.before a0 Z = true) (ws : List Jvm.Cond) (p1 : Int32) (p2 : Int32) (a3 : Addr) (h0 : Heap) (n0 : Nat) (Z0 : n0 ≤ h0.size) (g0 : ¬ p1 < (0 : Int32)) (g1 : p1 < p2) :
    MetFree l (⟨"jdk/internal/util/Preconditions", "checkIndex", "(IILjava/util/function/BiFunction;)I"⟩ : MethodName) (head1 (Jvm.Cond.code (⟨"jdk/internal/util/Preconditions", "checkIndex", "(IILjava/util/function/BiFunction;)I"⟩ : MethodName) jdk_41_method_11_code 3 (some .int) :: ws) ({ frames := 0, cells := 0, slots := 0, locals := 0 } : Room)) (fun a U => a = #[(.int p1), (.int p2), (.ref a3)] ∧ Z.Warmed39 U.vm ∧ U.heap = h0) (fun _ _ _ _ _ => True) (fun _ U o U' => ∃ v L, o = .returned v ∧ QPcR Z p1 p2 a3 h0 n0 v U'.heap L ∧ FrameEnd U o U' L ({ frames := 0, cells := 0, slots := 0, locals := 0 } : Room).cells ({ frames := 0, cells := 0, slots := 0, locals := 0 } : Room).slots) := by
  refine MetFree.of_bodySF (plainFor_of_name pn_16) hisR ?_
  intro p e s m args below meth c s₁ Bd hml0 hP hK
  obtain ⟨rfl, hZ, hh⟩ := hP
  have hx := Bd.exec
  have hby := Bd.bytes
  have hml : c.maxLocals = 3 := hml0
  have hown : s.vm.findClass "jdk/internal/util/Preconditions" = some m.cls := findClass_of_methodNamed Bd.named
  have hnm := (name_of_methodNamed Bd.named Bd.method).1
  have X0 : Stand p l e ({ frames := 0, cells := 0, slots := 0, locals := 0 } : Room) s m #[(.int p1), (.int p2), (.ref a3)] below meth c s₁ [] 0 0 := Stand.of_body Bd
  have e0 : s₁.heap = h0 := by rw [← hh, Bd.state]; rfl
  have N0 := Fr.nil n0
  show EndsQ p.tables e below s (fun v h L => QPcR Z p1 p2 a3 h0 n0 v h L) ({ frames := 0, cells := 0, slots := 0, locals := 0 } : Room).cells ({ frames := 0, cells := 0, slots := 0, locals := 0 } : Room).slots _
  refine EndsQ.go (b := s₁.setTop (mkF m 0 #[.val (.int p1), .val (.int p2), .val (.ref a3)] [])) (fun t k => castTop (ef_PcR m p1 p2 a3) k) ?_
  refine EndsQ.go (b := s₁.setTop (mkF m 17 #[.val (.int p1), .val (.int p2), .val (.ref a3)] [(.int p1)])) (fun t k => ?_) ?_
  · show Steps p.tables e below (s₁.setTop (mkF m 0 #[.val (.int p1), .val (.int p2), .val (.ref a3)] [])) _
    refine XS.iloadN X0.here hx rfl (hb hby d16_0) rfl ?_
    refine XS.ifNo X0.here hx rfl (hb hby d16_1) rfl ((if0 _ _).trans (flt g0).1) ?_
    show Steps p.tables e below (s₁.setTop (mkF m 4 #[.val (.int p1), .val (.int p2), .val (.ref a3)] [])) _
    refine XS.iloadN X0.here hx rfl (hb hby d16_4) rfl ?_
    refine XS.iloadN X0.here hx rfl (hb hby d16_5) rfl ?_
    refine XS.icmpYes X0.here hx rfl (pc0 := 6) (pc' := 16) rfl (hb hby d16_6) rfl (tlt g1).1 (by decide) (by decide) ?_
    show Steps p.tables e below (s₁.setTop (mkF m 16 #[.val (.int p1), .val (.int p2), .val (.ref a3)] [])) _
    refine XS.iloadN X0.here hx rfl (hb hby d16_16) rfl ?_
    show Steps p.tables e below (s₁.setTop (mkF m 17 #[.val (.int p1), .val (.int p2), .val (.ref a3)] [(.int p1)])) _
    exact k
  refine EndsQ.retI X0 hx Bd.notSynchronized Bd.returns (hb hby d16_17) (by decide) (by decide) ?_
  show QPcR Z p1 p2 a3 h0 n0 (some (.int p1)) s₁.heap _
  rw [e0]
  exact ⟨rfl, N0, rfl⟩
theorem ef_PcN (m : MethodId) (x0 : Int32) (x1 : Int32) : entryFrame m #[(.int x0), (.int x1), .null] 3 = mkF m 0 #[.val (.int x0), .val (.int x1), .val .null] [] := by first | (simp [entryFrame, mkF, argsToLocals, Value.category]; done) | rfl
def QPcN (Z : State) (p1 : Int32) (p2 : Int32) (h0 : Heap) (n0 : Nat) (v : Option Value) (h : Heap) (L : List Loc) : Prop := v = some (.int p1) ∧ Fr n0 L ∧ h = h0
set_option maxRecDepth 65536 in
set_option maxHeartbeats 40000000 in
theorem rmPcN (l : Launch) (Z : State) (a0 : Array Value) (hw : ∀ d ∈ tables_1, d.before a0 Z = true) (ws : List Jvm.Cond) (p1 : Int32) (p2 : Int32) (h0 : Heap) (n0 : Nat) (Z0 : n0 ≤ h0.size) (g0 : ¬ p1 < (0 : Int32)) (g1 : p1 < p2) :
    MetFree l (⟨"jdk/internal/util/Preconditions", "checkIndex", "(IILjava/util/function/BiFunction;)I"⟩ : MethodName) (head1 (Jvm.Cond.code (⟨"jdk/internal/util/Preconditions", "checkIndex", "(IILjava/util/function/BiFunction;)I"⟩ : MethodName) jdk_41_method_11_code 3 (some .int) :: ws) ({ frames := 0, cells := 0, slots := 0, locals := 0 } : Room)) (fun a U => a = #[(.int p1), (.int p2), .null] ∧ Z.Warmed39 U.vm ∧ U.heap = h0) (fun _ _ _ _ _ => True) (fun _ U o U' => ∃ v L, o = .returned v ∧ QPcN Z p1 p2 h0 n0 v U'.heap L ∧ FrameEnd U o U' L ({ frames := 0, cells := 0, slots := 0, locals := 0 } : Room).cells ({ frames := 0, cells := 0, slots := 0, locals := 0 } : Room).slots) := by
  refine MetFree.of_bodySF (plainFor_of_name pn_16) hisR ?_
  intro p e s m args below meth c s₁ Bd hml0 hP hK
  obtain ⟨rfl, hZ, hh⟩ := hP
  have hx := Bd.exec
  have hby := Bd.bytes
  have hml : c.maxLocals = 3 := hml0
  have hown : s.vm.findClass "jdk/internal/util/Preconditions" = some m.cls := findClass_of_methodNamed Bd.named
  have hnm := (name_of_methodNamed Bd.named Bd.method).1
  have X0 : Stand p l e ({ frames := 0, cells := 0, slots := 0, locals := 0 } : Room) s m #[(.int p1), (.int p2), .null] below meth c s₁ [] 0 0 := Stand.of_body Bd
  have e0 : s₁.heap = h0 := by rw [← hh, Bd.state]; rfl
  have N0 := Fr.nil n0
  show EndsQ p.tables e below s (fun v h L => QPcN Z p1 p2 h0 n0 v h L) ({ frames := 0, cells := 0, slots := 0, locals := 0 } : Room).cells ({ frames := 0, cells := 0, slots := 0, locals := 0 } : Room).slots _
  refine EndsQ.go (b := s₁.setTop (mkF m 0 #[.val (.int p1), .val (.int p2), .val .null] [])) (fun t k => castTop (ef_PcN m p1 p2) k) ?_
  refine EndsQ.go (b := s₁.setTop (mkF m 17 #[.val (.int p1), .val (.int p2), .val .null] [(.int p1)])) (fun t k => ?_) ?_
  · show Steps p.tables e below (s₁.setTop (mkF m 0 #[.val (.int p1), .val (.int p2), .val .null] [])) _
    refine XS.iloadN X0.here hx rfl (hb hby d16_0) rfl ?_
    refine XS.ifNo X0.here hx rfl (hb hby d16_1) rfl ((if0 _ _).trans (flt g0).1) ?_
    show Steps p.tables e below (s₁.setTop (mkF m 4 #[.val (.int p1), .val (.int p2), .val .null] [])) _
    refine XS.iloadN X0.here hx rfl (hb hby d16_4) rfl ?_
    refine XS.iloadN X0.here hx rfl (hb hby d16_5) rfl ?_
    refine XS.icmpYes X0.here hx rfl (pc0 := 6) (pc' := 16) rfl (hb hby d16_6) rfl (tlt g1).1 (by decide) (by decide) ?_
    show Steps p.tables e below (s₁.setTop (mkF m 16 #[.val (.int p1), .val (.int p2), .val .null] [])) _
    refine XS.iloadN X0.here hx rfl (hb hby d16_16) rfl ?_
    show Steps p.tables e below (s₁.setTop (mkF m 17 #[.val (.int p1), .val (.int p2), .val .null] [(.int p1)])) _
    exact k
  refine EndsQ.retI X0 hx Bd.notSynchronized Bd.returns (hb hby d16_17) (by decide) (by decide) ?_
  show QPcN Z p1 p2 h0 n0 (some (.int p1)) s₁.heap _
  rw [e0]
  exact ⟨rfl, N0, rfl⟩
theorem ef_CiR (m : MethodId) (x0 : Int32) (x1 : Int32) : entryFrame m #[(.int x0), (.int x1)] 2 = mkF m 0 #[.val (.int x0), .val (.int x1)] [] := by first | (simp [entryFrame, mkF, argsToLocals, Value.category]; done) | rfl
def QCiR (Z : State) (p1 : Int32) (p2 : Int32) (af : Addr) (h0 : Heap) (n0 : Nat) (v : Option Value) (h : Heap) (L : List Loc) : Prop := v = none ∧ Fr n0 L ∧ h = h0
set_option maxRecDepth 65536 in
set_option maxHeartbeats 40000000 in
theorem rmCiR (l : Launch) (Z : State) (a0 : Array Value) (hw : ∀ d ∈ tables_1, d.before a0 Z = true) (ws : List Jvm.Cond) (p1 : Int32) (p2 : Int32) (af : Addr) (h0 : Heap) (n0 : Nat) (Z0 : n0 ≤ h0.size) (S_F : Sta Z h0 "jdk/internal/util/Preconditions" "SIOOBE_FORMATTER" "Ljava/util/function/BiFunction;" (.ref af)) (g0 : ¬ p1 < (0 : Int32)) (g1 : p1 < p2) :
    MetFree l (⟨"java/lang/String", "checkIndex", "(II)V"⟩ : MethodName) (head1 (Jvm.Cond.code (⟨"java/lang/String", "checkIndex", "(II)V"⟩ : MethodName) jdk_42_method_155_code 2 none :: ws) ({ frames := 1, cells := 0, slots := 0, locals := 16 } : Room)) (fun a U => a = #[(.int p1), (.int p2)] ∧ Z.Warmed39 U.vm ∧ U.heap = h0) (fun _ _ _ _ _ => True) (fun _ U o U' => ∃ v L, o = .returned v ∧ QCiR Z p1 p2 af h0 n0 v U'.heap L ∧ FrameEnd U o U' L ({ frames := 1, cells := 0, slots := 0, locals := 16 } : Room).cells ({ frames := 1, cells := 0, slots := 0, locals := 16 } : Room).slots) := by
  refine MetFree.of_bodySF (plainFor_of_name pn_15) hisR ?_
  intro p e s m args below meth c s₁ Bd hml0 hP hK
  obtain ⟨rfl, hZ, hh⟩ := hP
  have hx := Bd.exec
  have hby := Bd.bytes
  have hml : c.maxLocals = 2 := hml0
  have hown : s.vm.findClass "java/lang/String" = some m.cls := findClass_of_methodNamed Bd.named
  have hnm := (name_of_methodNamed Bd.named Bd.method).1
  have X0 : Stand p l e ({ frames := 1, cells := 0, slots := 0, locals := 16 } : Room) s m #[(.int p1), (.int p2)] below meth c s₁ [] 0 0 := Stand.of_body Bd
  have e0 : s₁.heap = h0 := by rw [← hh, Bd.state]; rfl
  have N0 := Fr.nil n0
  show EndsQ p.tables e below s (fun v h L => QCiR Z p1 p2 af h0 n0 v h L) ({ frames := 1, cells := 0, slots := 0, locals := 16 } : Room).cells ({ frames := 1, cells := 0, slots := 0, locals := 16 } : Room).slots _
  refine EndsQ.go (b := s₁.setTop (mkF m 0 #[.val (.int p1), .val (.int p2)] [])) (fun t k => castTop (ef_CiR m p1 p2) k) ?_
  refine EndsQ.go (b := s₁.setTop (mkF m 2 #[.val (.int p1), .val (.int p2)] [(.int p2), (.int p1)])) (fun t k => ?_) ?_
  · show Steps p.tables e below (s₁.setTop (mkF m 0 #[.val (.int p1), .val (.int p2)] [])) _
    refine XS.iloadN X0.here hx rfl (hb hby d15_0) rfl ?_
    refine XS.iloadN X0.here hx rfl (hb hby d15_1) rfl ?_
    exact k
  obtain ⟨T101, X101, e101, st101⟩ := getS X0 hx hZ hown (host := "") (own_w hw 71 rfl) Via.refl e0 S_F (g := (mkF m 2 #[.val (.int p1), .val (.int p2)] [(.int p2), (.int p1)])) rfl (hb hby d15_2)
  refine EndsQ.go st101 ?_
  show EndsQ _ _ _ _ _ _ _ (T101.setTop (mkF m 5 #[.val (.int p1), .val (.int p2)] [(.ref af), (.int p2), (.int p1)]))
  obtain ⟨_, _, ⟨T102, L102, kk102, nn102⟩, -, X102, ⟨Lc102, hQ102, l102, y102, z102⟩, st102⟩ := Jvm.LawKit.callS X101 hx (y := (⟨"jdk/internal/util/Preconditions", "checkIndex", "(IILjava/util/function/BiFunction;)I"⟩ : MethodName)) hown (mvT hZ (own_w hw 73 rfl)) (mvT hZ (own_w hw 74 rfl)) (mvT hZ (own_w hw 72 rfl)) (mvT hZ (own_w hw 75 rfl)) (by decide) (backOf (W := 0) (rmPcR l Z a0 hw [] p1 p2 af h0 n0 Z0 g0 g1) hZ (own_w hw 75 rfl) (own_w hw 72 rfl) (by decide) (by decide)) (g := (mkF m 5 #[.val (.int p1), .val (.int p2)] [(.ref af), (.int p2), (.int p1)])) rfl (by rw [hml]; rfl) (argsL := [(.int p1), (.int p2), (.ref af)]) (rest := []) (lenOf pd_1 rfl) rfl (by show 2 * 0 + _ ≤ _; exact Nat.le_of_eq rfl) (hb hby d15_5) (fun _ _ => ⟨rfl, e101, (by decide : 0 + 0 ≤ _), (by decide : 0 + 0 ≤ _)⟩)
  dsimp only [Pt.U, Pt.locs, Pt.cells, Pt.slots] at X102 l102 y102 z102 st102 hQ102
  subst l102 y102 z102
  obtain ⟨rfl, Nq102, eq102⟩ := hQ102
  have N102 := Fr.app N0 Nq102
  refine EndsQ.go st102 ?_
  show EndsQ _ _ _ _ _ _ _ (T102.setTop (mkF m 8 #[.val (.int p1), .val (.int p2)] [(.int p1)]))
  refine EndsQ.go (b := T102.setTop (mkF m 9 #[.val (.int p1), .val (.int p2)] [])) (fun t k => ?_) ?_
  · show Steps p.tables e below (T102.setTop (mkF m 8 #[.val (.int p1), .val (.int p2)] [(.int p1)])) _
    refine XS.pop X102.here hx rfl (hb hby d15_8) rfl rfl ?_
    exact k
  refine EndsQ.retV X102 hx Bd.notSynchronized Bd.returns (hb hby d15_9) (by decide) (by decide) ?_
  show QCiR Z p1 p2 af h0 n0 (none) T102.heap _
  rw [eq102]
  exact ⟨rfl, N102, rfl⟩
theorem ef_CiN (m : MethodId) (x0 : Int32) (x1 : Int32) : entryFrame m #[(.int x0), (.int x1)] 2 = mkF m 0 #[.val (.int x0), .val (.int x1)] [] := by first | (simp [entryFrame, mkF, argsToLocals, Value.category]; done) | rfl
def QCiN (Z : State) (p1 : Int32) (p2 : Int32) (h0 : Heap) (n0 : Nat) (v : Option Value) (h : Heap) (L : List Loc) : Prop := v = none ∧ Fr n0 L ∧ h = h0
set_option maxRecDepth 65536 in
set_option maxHeartbeats 40000000 in
theorem rmCiN (l : Launch) (Z : State) (a0 : Array Value) (hw : ∀ d ∈ tables_1, d.before a0 Z = true) (ws : List Jvm.Cond) (p1 : Int32) (p2 : Int32) (h0 : Heap) (n0 : Nat) (Z0 : n0 ≤ h0.size) (S_F : Sta Z h0 "jdk/internal/util/Preconditions" "SIOOBE_FORMATTER" "Ljava/util/function/BiFunction;" .null) (g0 : ¬ p1 < (0 : Int32)) (g1 : p1 < p2) :
    MetFree l (⟨"java/lang/String", "checkIndex", "(II)V"⟩ : MethodName) (head1 (Jvm.Cond.code (⟨"java/lang/String", "checkIndex", "(II)V"⟩ : MethodName) jdk_42_method_155_code 2 none :: ws) ({ frames := 1, cells := 0, slots := 0, locals := 16 } : Room)) (fun a U => a = #[(.int p1), (.int p2)] ∧ Z.Warmed39 U.vm ∧ U.heap = h0) (fun _ _ _ _ _ => True) (fun _ U o U' => ∃ v L, o = .returned v ∧ QCiN Z p1 p2 h0 n0 v U'.heap L ∧ FrameEnd U o U' L ({ frames := 1, cells := 0, slots := 0, locals := 16 } : Room).cells ({ frames := 1, cells := 0, slots := 0, locals := 16 } : Room).slots) := by
  refine MetFree.of_bodySF (plainFor_of_name pn_15) hisR ?_
  intro p e s m args below meth c s₁ Bd hml0 hP hK
  obtain ⟨rfl, hZ, hh⟩ := hP
  have hx := Bd.exec
  have hby := Bd.bytes
  have hml : c.maxLocals = 2 := hml0
  have hown : s.vm.findClass "java/lang/String" = some m.cls := findClass_of_methodNamed Bd.named
  have hnm := (name_of_methodNamed Bd.named Bd.method).1
  have X0 : Stand p l e ({ frames := 1, cells := 0, slots := 0, locals := 16 } : Room) s m #[(.int p1), (.int p2)] below meth c s₁ [] 0 0 := Stand.of_body Bd
  have e0 : s₁.heap = h0 := by rw [← hh, Bd.state]; rfl
  have N0 := Fr.nil n0
  show EndsQ p.tables e below s (fun v h L => QCiN Z p1 p2 h0 n0 v h L) ({ frames := 1, cells := 0, slots := 0, locals := 16 } : Room).cells ({ frames := 1, cells := 0, slots := 0, locals := 16 } : Room).slots _
  refine EndsQ.go (b := s₁.setTop (mkF m 0 #[.val (.int p1), .val (.int p2)] [])) (fun t k => castTop (ef_CiN m p1 p2) k) ?_
  refine EndsQ.go (b := s₁.setTop (mkF m 2 #[.val (.int p1), .val (.int p2)] [(.int p2), (.int p1)])) (fun t k => ?_) ?_
  · show Steps p.tables e below (s₁.setTop (mkF m 0 #[.val (.int p1), .val (.int p2)] [])) _
    refine XS.iloadN X0.here hx rfl (hb hby d15_0) rfl ?_
    refine XS.iloadN X0.here hx rfl (hb hby d15_1) rfl ?_
    exact k
  obtain ⟨T101, X101, e101, st101⟩ := getS X0 hx hZ hown (host := "") (own_w hw 71 rfl) Via.refl e0 S_F (g := (mkF m 2 #[.val (.int p1), .val (.int p2)] [(.int p2), (.int p1)])) rfl (hb hby d15_2)
  refine EndsQ.go st101 ?_
  show EndsQ _ _ _ _ _ _ _ (T101.setTop (mkF m 5 #[.val (.int p1), .val (.int p2)] [.null, (.int p2), (.int p1)]))
  obtain ⟨_, _, ⟨T102, L102, kk102, nn102⟩, -, X102, ⟨Lc102, hQ102, l102, y102, z102⟩, st102⟩ := Jvm.LawKit.callS X101 hx (y := (⟨"jdk/internal/util/Preconditions", "checkIndex", "(IILjava/util/function/BiFunction;)I"⟩ : MethodName)) hown (mvT hZ (own_w hw 73 rfl)) (mvT hZ (own_w hw 74 rfl)) (mvT hZ (own_w hw 72 rfl)) (mvT hZ (own_w hw 75 rfl)) (by decide) (backOf (W := 0) (rmPcN l Z a0 hw [] p1 p2 h0 n0 Z0 g0 g1) hZ (own_w hw 75 rfl) (own_w hw 72 rfl) (by decide) (by decide)) (g := (mkF m 5 #[.val (.int p1), .val (.int p2)] [.null, (.int p2), (.int p1)])) rfl (by rw [hml]; rfl) (argsL := [(.int p1), (.int p2), .null]) (rest := []) (lenOf pd_1 rfl) rfl (by show 2 * 0 + _ ≤ _; exact Nat.le_of_eq rfl) (hb hby d15_5) (fun _ _ => ⟨rfl, e101, (by decide : 0 + 0 ≤ _), (by decide : 0 + 0 ≤ _)⟩)
  dsimp only [Pt.U, Pt.locs, Pt.cells, Pt.slots] at X102 l102 y102 z102 st102 hQ102
  subst l102 y102 z102
  obtain ⟨rfl, Nq102, eq102⟩ := hQ102
  have N102 := Fr.app N0 Nq102
  refine EndsQ.go st102 ?_
  show EndsQ _ _ _ _ _ _ _ (T102.setTop (mkF m 8 #[.val (.int p1), .val (.int p2)] [(.int p1)]))
  refine EndsQ.go (b := T102.setTop (mkF m 9 #[.val (.int p1), .val (.int p2)] [])) (fun t k => ?_) ?_
  · show Steps p.tables e below (T102.setTop (mkF m 8 #[.val (.int p1), .val (.int p2)] [(.int p1)])) _
    refine XS.pop X102.here hx rfl (hb hby d15_8) rfl rfl ?_
    exact k
  refine EndsQ.retV X102 hx Bd.notSynchronized Bd.returns (hb hby d15_9) (by decide) (by decide) ?_
  show QCiN Z p1 p2 h0 n0 (none) T102.heap _
  rw [eq102]
  exact ⟨rfl, N102, rfl⟩
def Q15 (Z : State) (p1 : Int32) (p2 : Int32) (cs : Int32) (fv : Value) (h0 : Heap) (n0 : Nat) (v : Option Value) (h : Heap) (L : List Loc) : Prop := v = none ∧ Fr n0 L ∧ h = h0
set_option maxRecDepth 65536 in
set_option maxHeartbeats 40000000 in
theorem rm15 (l : Launch) (Z : State) (a0 : Array Value) (hw : ∀ d ∈ tables_1, d.before a0 Z = true) (ws : List Jvm.Cond) (p1 : Int32) (p2 : Int32) (cs : Int32) (fv : Value) (h0 : Heap) (n0 : Nat) (Z0 : n0 ≤ h0.size) (ST : own_St Z h0 cs fv) (g0 : ¬ p1 < (0 : Int32)) (g1 : p1 < p2) :
    MetFree l (⟨"java/lang/String", "checkIndex", "(II)V"⟩ : MethodName) (head1 (Jvm.Cond.code (⟨"java/lang/String", "checkIndex", "(II)V"⟩ : MethodName) jdk_42_method_155_code 2 none :: ws) ({ frames := 1, cells := 0, slots := 0, locals := 16 } : Room)) (fun a U => a = #[(.int p1), (.int p2)] ∧ Z.Warmed39 U.vm ∧ U.heap = h0) (fun _ _ _ _ _ => True) (fun _ U o U' => ∃ v L, o = .returned v ∧ Q15 Z p1 p2 cs fv h0 n0 v U'.heap L ∧ FrameEnd U o U' L ({ frames := 1, cells := 0, slots := 0, locals := 16 } : Room).cells ({ frames := 1, cells := 0, slots := 0, locals := 16 } : Room).slots) := by
  obtain ⟨-, -, S_F, hfv, -⟩ := ST
  cases fv with
  | ref a => exact rmCiR l Z a0 hw ws p1 p2 a h0 n0 Z0 S_F g0 g1
  | null => exact rmCiN l Z a0 hw ws p1 p2 h0 n0 Z0 S_F g0 g1
  | int => cases hfv
  | long => cases hfv
  | float => cases hfv
  | double => cases hfv
  | retAddr => cases hfv
theorem ef_14 (m : MethodId) (x0 : Addr) (x1 : Int32) : entryFrame m #[(.ref x0), (.int x1)] 2 = mkF m 0 #[.val (.ref x0), .val (.int x1)] [] := by first | (simp [entryFrame, mkF, argsToLocals, Value.category]; done) | rfl
def Q14 (Z : State) (a1 : Addr) (p2 : Int32) (cs : Int32) (fv : Value) (k : ClassId) (n : Int32) (ch : Nat → Int32) (h0 : Heap) (n0 : Nat) (v : Option Value) (h : Heap) (L : List Loc) : Prop := v = some (.int (ch p2.toNatClampNeg)) ∧ Fr n0 L ∧ h = h0
set_option maxRecDepth 65536 in
set_option maxHeartbeats 40000000 in
theorem rm14 (l : Launch) (Z : State) (a0 : Array Value) (hw : ∀ d ∈ tables_1, d.before a0 Z = true) (ws : List Jvm.Cond) (a1 : Addr) (p2 : Int32) (cs : Int32) (fv : Value) (k : ClassId) (n : Int32) (ch : Nat → Int32) (h0 : Heap) (n0 : Nat) (Z0 : n0 ≤ h0.size) (ST : own_St Z h0 cs fv) (G1 : Arf Z h0 a1 k .byte n (own_l1 ch)) (g0 : ¬ p2 < (0 : Int32)) (g1 : p2 < n) (hc : 0 ≤ (ch p2.toNatClampNeg).toInt) (hl : (ch p2.toNatClampNeg).toInt < 256) :
    MetFree l (⟨"java/lang/StringLatin1", "charAt", "([BI)C"⟩ : MethodName) (head1 (Jvm.Cond.code (⟨"java/lang/StringLatin1", "charAt", "([BI)C"⟩ : MethodName) jdk_43_method_2_code 2 (some .char) :: ws) ({ frames := 2, cells := 0, slots := 0, locals := 32 } : Room)) (fun a U => a = #[(.ref a1), (.int p2)] ∧ Z.Warmed39 U.vm ∧ U.heap = h0) (fun _ _ _ _ _ => True) (fun _ U o U' => ∃ v L, o = .returned v ∧ Q14 Z a1 p2 cs fv k n ch h0 n0 v U'.heap L ∧ FrameEnd U o U' L ({ frames := 2, cells := 0, slots := 0, locals := 32 } : Room).cells ({ frames := 2, cells := 0, slots := 0, locals := 32 } : Room).slots) := by
  refine MetFree.of_bodySF (plainFor_of_name pn_14) hisR ?_
  intro p e s m args below meth c s₁ Bd hml0 hP hK
  obtain ⟨rfl, hZ, hh⟩ := hP
  have hx := Bd.exec
  have hby := Bd.bytes
  have hml : c.maxLocals = 2 := hml0
  have hown : s.vm.findClass "java/lang/StringLatin1" = some m.cls := findClass_of_methodNamed Bd.named
  have hnm := (name_of_methodNamed Bd.named Bd.method).1
  have X0 : Stand p l e ({ frames := 2, cells := 0, slots := 0, locals := 32 } : Room) s m #[(.ref a1), (.int p2)] below meth c s₁ [] 0 0 := Stand.of_body Bd
  have e0 : s₁.heap = h0 := by rw [← hh, Bd.state]; rfl
  have N0 := Fr.nil n0
  show EndsQ p.tables e below s (fun v h L => Q14 Z a1 p2 cs fv k n ch h0 n0 v h L) ({ frames := 2, cells := 0, slots := 0, locals := 32 } : Room).cells ({ frames := 2, cells := 0, slots := 0, locals := 32 } : Room).slots _
  refine EndsQ.go (b := s₁.setTop (mkF m 0 #[.val (.ref a1), .val (.int p2)] [])) (fun t k => castTop (ef_14 m a1 p2) k) ?_
  obtain ⟨S_C, hcs, S_F, hfv, S_A, S_H, S_L⟩ := ST
  refine EndsQ.go (b := s₁.setTop (mkF m 2 #[.val (.ref a1), .val (.int p2)] [(.ref a1), (.int p2)])) (fun t k => ?_) ?_
  · show Steps p.tables e below (s₁.setTop (mkF m 0 #[.val (.ref a1), .val (.int p2)] [])) _
    refine XS.iloadN X0.here hx rfl (hb hby d14_0) rfl ?_
    refine XS.aloadN X0.here hx rfl (hb hby d14_1) rfl rfl ?_
    exact k
  obtain ⟨cl101, Ar101, -, S101, M101, -, -⟩ := id G1
  refine EndsQ.go (fun t k => X0.arraylength hx (by rw [e0]; exact Ar101.1) (State.isArrayOf_alike hZ.alike Ar101.2.1) (g := (mkF m 2 #[.val (.ref a1), .val (.int p2)] [(.ref a1), (.int p2)])) rfl rfl (hb hby d14_2) _ k) ?_
  rw [len_of S101 M101]
  show EndsQ _ _ _ _ _ _ _ (s₁.setTop (mkF m 3 #[.val (.ref a1), .val (.int p2)] [(.int n), (.int p2)]))
  obtain ⟨_, _, ⟨T102, L102, kk102, nn102⟩, -, X102, ⟨Lc102, hQ102, l102, y102, z102⟩, st102⟩ := Jvm.LawKit.callS X0 hx (y := (⟨"java/lang/String", "checkIndex", "(II)V"⟩ : MethodName)) hown (mvT hZ (own_w hw 68 rfl)) (mvT hZ (own_w hw 69 rfl)) (mvT hZ (own_w hw 8 rfl)) (mvT hZ (own_w hw 70 rfl)) (by decide) (backOf (W := 0) (rm15 l Z a0 hw [] p2 n cs fv h0 n0 Z0 ⟨S_C, hcs, S_F, hfv, S_A, S_H, S_L⟩ g0 g1) hZ (own_w hw 70 rfl) (own_w hw 8 rfl) (by decide) (by decide)) (g := (mkF m 3 #[.val (.ref a1), .val (.int p2)] [(.int n), (.int p2)])) rfl (by rw [hml]; rfl) (argsL := [(.int p2), (.int n)]) (rest := []) (lenOf pd_2 rfl) rfl (by show 2 * 0 + _ ≤ _; exact Nat.le_of_eq rfl) (hb hby d14_3) (fun _ _ => ⟨rfl, e0, (by decide : 0 + 0 ≤ _), (by decide : 0 + 0 ≤ _)⟩)
  dsimp only [Pt.U, Pt.locs, Pt.cells, Pt.slots] at X102 l102 y102 z102 st102 hQ102
  subst l102 y102 z102
  obtain ⟨rfl, Nq102, eq102⟩ := hQ102
  have N102 := Fr.app N0 Nq102
  refine EndsQ.go st102 ?_
  show EndsQ _ _ _ _ _ _ _ (T102.setTop (mkF m 6 #[.val (.ref a1), .val (.int p2)] []))
  refine EndsQ.go (b := T102.setTop (mkF m 8 #[.val (.ref a1), .val (.int p2)] [(.int p2), (.ref a1)])) (fun t k => ?_) ?_
  · show Steps p.tables e below (T102.setTop (mkF m 6 #[.val (.ref a1), .val (.int p2)] [])) _
    refine XS.aloadN X102.here hx rfl (hb hby d14_6) rfl rfl ?_
    refine XS.iloadN X102.here hx rfl (hb hby d14_7) rfl ?_
    show Steps p.tables e below (T102.setTop (mkF m 8 #[.val (.ref a1), .val (.int p2)] [(.int p2), (.ref a1)])) _
    exact k
  obtain ⟨cl103, Ar103, q103, S103, M103, H103, G103⟩ := id G1
  have hin103 : ¬ (p2 < 0 ∨ cl103.slots.size ≤ (p2).toNatClampNeg) := inb_of S103 ⟨g0, g1⟩
  have hat103 : cl103.slots[(p2).toNatClampNeg]? = some (.int (own_lo (ch (p2).toNatClampNeg))) := H103 _ (Nat.lt_of_not_le fun y => hin103 (Or.inr y))
  refine EndsQ.go (fun t k => X102.baloadBytes hx (j := p2) (v := (.int (own_lo (ch (p2).toNatClampNeg)))) (by rw [eq102]; exact Ar103.1) (State.isArrayOf_alike hZ.alike Ar103.2.1) Ar103.2.2 hin103 hat103 (g := (mkF m 8 #[.val (.ref a1), .val (.int p2)] [(.int p2), (.ref a1)])) rfl rfl (hb hby d14_8) _ k) ?_
  show EndsQ _ _ _ _ _ _ _ (T102.setTop (mkF m 9 #[.val (.ref a1), .val (.int p2)] [(.int (own_lo (ch (p2).toNatClampNeg)))]))
  refine EndsQ.go (b := T102.setTop (mkF m 14 #[.val (.ref a1), .val (.int p2)] [(.int (((own_lo (ch (p2).toNatClampNeg)) &&& (255 : Int32)).toUInt32.toUInt16.toUInt32.toInt32))])) (fun t k => ?_) ?_
  · show Steps p.tables e below (T102.setTop (mkF m 9 #[.val (.ref a1), .val (.int p2)] [(.int (own_lo (ch (p2).toNatClampNeg)))])) _
    refine XS.sipush X102.here hx rfl (hb hby d14_9) ?_
    refine XS.iand X102.here hx rfl (hb hby d14_12) rfl ?_
    refine XS.i2c X102.here hx rfl (hb hby d14_13) rfl ?_
    exact k
  refine EndsQ.retN X102 hx Bd.notSynchronized (t := .char) Bd.returns (by simp) (hb hby d14_14) (by decide) (by decide) ?_
  show Q14 Z a1 p2 cs fv k n ch h0 n0 (some (.int (nar .char (((own_lo (ch (p2).toNatClampNeg)) &&& (255 : Int32)).toUInt32.toUInt16.toUInt32.toInt32)))) T102.heap _
  rw [eq102]
  exact ⟨congrArg (fun z => some (Value.int z)) (own_l1c _ hc hl), N102, rfl⟩
theorem ef_25 (m : MethodId) (x0 : Addr) : entryFrame m #[(.ref x0)] 1 = mkF m 0 #[.val (.ref x0)] [] := by first | (simp [entryFrame, mkF, argsToLocals, Value.category]; done) | rfl
def Q25 (Z : State) (a1 : Addr) (k : ClassId) (n : Int32) (f : Nat → Value) (h0 : Heap) (n0 : Nat) (v : Option Value) (h : Heap) (L : List Loc) : Prop := v = some (.int n) ∧ Fr n0 L ∧ h = h0
set_option maxRecDepth 65536 in
set_option maxHeartbeats 40000000 in
theorem rm25 (l : Launch) (Z : State) (a0 : Array Value) (hw : ∀ d ∈ tables_1, d.before a0 Z = true) (ws : List Jvm.Cond) (a1 : Addr) (k : ClassId) (n : Int32) (f : Nat → Value) (h0 : Heap) (n0 : Nat) (Z0 : n0 ≤ h0.size) (G1 : Arf Z h0 a1 k .byte (own_dbl n) f) (hn0 : 0 ≤ n.toInt) (hn1 : n.toInt < 1073741824) :
    MetFree l (⟨"java/lang/StringUTF16", "length", "([B)I"⟩ : MethodName) (head1 (Jvm.Cond.code (⟨"java/lang/StringUTF16", "length", "([B)I"⟩ : MethodName) jdk_52_method_6_code 1 (some .int) :: ws) ({ frames := 0, cells := 0, slots := 0, locals := 0 } : Room)) (fun a U => a = #[(.ref a1)] ∧ Z.Warmed39 U.vm ∧ U.heap = h0) (fun _ _ _ _ _ => True) (fun _ U o U' => ∃ v L, o = .returned v ∧ Q25 Z a1 k n f h0 n0 v U'.heap L ∧ FrameEnd U o U' L ({ frames := 0, cells := 0, slots := 0, locals := 0 } : Room).cells ({ frames := 0, cells := 0, slots := 0, locals := 0 } : Room).slots) := by
  refine MetFree.of_bodySF (plainFor_of_name pn_25) hisR ?_
  intro p e s m args below meth c s₁ Bd hml0 hP hK
  obtain ⟨rfl, hZ, hh⟩ := hP
  have hx := Bd.exec
  have hby := Bd.bytes
  have hml : c.maxLocals = 1 := hml0
  have hown : s.vm.findClass "java/lang/StringUTF16" = some m.cls := findClass_of_methodNamed Bd.named
  have hnm := (name_of_methodNamed Bd.named Bd.method).1
  have X0 : Stand p l e ({ frames := 0, cells := 0, slots := 0, locals := 0 } : Room) s m #[(.ref a1)] below meth c s₁ [] 0 0 := Stand.of_body Bd
  have e0 : s₁.heap = h0 := by rw [← hh, Bd.state]; rfl
  have N0 := Fr.nil n0
  show EndsQ p.tables e below s (fun v h L => Q25 Z a1 k n f h0 n0 v h L) ({ frames := 0, cells := 0, slots := 0, locals := 0 } : Room).cells ({ frames := 0, cells := 0, slots := 0, locals := 0 } : Room).slots _
  refine EndsQ.go (b := s₁.setTop (mkF m 0 #[.val (.ref a1)] [])) (fun t k => castTop (ef_25 m a1) k) ?_
  refine EndsQ.go (b := s₁.setTop (mkF m 1 #[.val (.ref a1)] [(.ref a1)])) (fun t k => ?_) ?_
  · show Steps p.tables e below (s₁.setTop (mkF m 0 #[.val (.ref a1)] [])) _
    refine XS.aloadN X0.here hx rfl (hb hby d25_0) rfl rfl ?_
    exact k
  obtain ⟨cl101, Ar101, -, S101, M101, -, -⟩ := id G1
  refine EndsQ.go (fun t k => X0.arraylength hx (by rw [e0]; exact Ar101.1) (State.isArrayOf_alike hZ.alike Ar101.2.1) (g := (mkF m 1 #[.val (.ref a1)] [(.ref a1)])) rfl rfl (hb hby d25_1) _ k) ?_
  rw [len_of S101 M101]
  show EndsQ _ _ _ _ _ _ _ (s₁.setTop (mkF m 2 #[.val (.ref a1)] [(.int (own_dbl n))]))
  refine EndsQ.go (b := s₁.setTop (mkF m 4 #[.val (.ref a1)] [(.int ((own_dbl n) >>> ((1 : Int32) &&& 31)))])) (fun t k => ?_) ?_
  · show Steps p.tables e below (s₁.setTop (mkF m 2 #[.val (.ref a1)] [(.int (own_dbl n))])) _
    refine XS.iconst X0.here hx rfl (hb hby d25_2) ?_
    refine XS.ishr X0.here hx rfl (hb hby d25_3) rfl ?_
    exact k
  refine EndsQ.retI X0 hx Bd.notSynchronized Bd.returns (hb hby d25_4) (by decide) (by decide) ?_
  show Q25 Z a1 k n f h0 n0 (some (.int ((own_dbl n) >>> ((1 : Int32) &&& 31)))) s₁.heap _
  rw [e0]
  exact ⟨congrArg (fun z => some (Value.int z)) (own_half n hn0 hn1), N0, rfl⟩
theorem ef_24 (m : MethodId) (x0 : Int32) (x1 : Addr) : entryFrame m #[(.int x0), (.ref x1)] 2 = mkF m 0 #[.val (.int x0), .val (.ref x1)] [] := by first | (simp [entryFrame, mkF, argsToLocals, Value.category]; done) | rfl
def Q24 (Z : State) (p1 : Int32) (a2 : Addr) (cs : Int32) (fv : Value) (k : ClassId) (n : Int32) (f : Nat → Value) (h0 : Heap) (n0 : Nat) (v : Option Value) (h : Heap) (L : List Loc) : Prop := v = none ∧ Fr n0 L ∧ h = h0
set_option maxRecDepth 65536 in
set_option maxHeartbeats 40000000 in
theorem rm24 (l : Launch) (Z : State) (a0 : Array Value) (hw : ∀ d ∈ tables_1, d.before a0 Z = true) (ws : List Jvm.Cond) (p1 : Int32) (a2 : Addr) (cs : Int32) (fv : Value) (k : ClassId) (n : Int32) (f : Nat → Value) (h0 : Heap) (n0 : Nat) (Z0 : n0 ≤ h0.size) (ST : own_St Z h0 cs fv) (G1 : Arf Z h0 a2 k .byte (own_dbl n) f) (hn0 : 0 ≤ n.toInt) (hn1 : n.toInt < 1073741824) (g0 : ¬ p1 < (0 : Int32)) (g1 : p1 < n) :
    MetFree l (⟨"java/lang/StringUTF16", "checkIndex", "(I[B)V"⟩ : MethodName) (head1 (Jvm.Cond.code (⟨"java/lang/StringUTF16", "checkIndex", "(I[B)V"⟩ : MethodName) jdk_52_method_91_code 2 none :: ws) ({ frames := 2, cells := 0, slots := 0, locals := 32 } : Room)) (fun a U => a = #[(.int p1), (.ref a2)] ∧ Z.Warmed39 U.vm ∧ U.heap = h0) (fun _ _ _ _ _ => True) (fun _ U o U' => ∃ v L, o = .returned v ∧ Q24 Z p1 a2 cs fv k n f h0 n0 v U'.heap L ∧ FrameEnd U o U' L ({ frames := 2, cells := 0, slots := 0, locals := 32 } : Room).cells ({ frames := 2, cells := 0, slots := 0, locals := 32 } : Room).slots) := by
  refine MetFree.of_bodySF (plainFor_of_name pn_24) hisR ?_
  intro p e s m args below meth c s₁ Bd hml0 hP hK
  obtain ⟨rfl, hZ, hh⟩ := hP
  have hx := Bd.exec
  have hby := Bd.bytes
  have hml : c.maxLocals = 2 := hml0
  have hown : s.vm.findClass "java/lang/StringUTF16" = some m.cls := findClass_of_methodNamed Bd.named
  have hnm := (name_of_methodNamed Bd.named Bd.method).1
  have X0 : Stand p l e ({ frames := 2, cells := 0, slots := 0, locals := 32 } : Room) s m #[(.int p1), (.ref a2)] below meth c s₁ [] 0 0 := Stand.of_body Bd
  have e0 : s₁.heap = h0 := by rw [← hh, Bd.state]; rfl
  have N0 := Fr.nil n0
  show EndsQ p.tables e below s (fun v h L => Q24 Z p1 a2 cs fv k n f h0 n0 v h L) ({ frames := 2, cells := 0, slots := 0, locals := 32 } : Room).cells ({ frames := 2, cells := 0, slots := 0, locals := 32 } : Room).slots _
  refine EndsQ.go (b := s₁.setTop (mkF m 0 #[.val (.int p1), .val (.ref a2)] [])) (fun t k => castTop (ef_24 m p1 a2) k) ?_
  obtain ⟨S_C, hcs, S_F, hfv, S_A, S_H, S_L⟩ := ST
  refine EndsQ.go (b := s₁.setTop (mkF m 2 #[.val (.int p1), .val (.ref a2)] [(.ref a2), (.int p1)])) (fun t k => ?_) ?_
  · show Steps p.tables e below (s₁.setTop (mkF m 0 #[.val (.int p1), .val (.ref a2)] [])) _
    refine XS.iloadN X0.here hx rfl (hb hby d24_0) rfl ?_
    refine XS.aloadN X0.here hx rfl (hb hby d24_1) rfl rfl ?_
    exact k
  obtain ⟨_, _, ⟨T101, L101, kk101, nn101⟩, -, X101, ⟨Lc101, hQ101, l101, y101, z101⟩, st101⟩ := Jvm.LawKit.callS X0 hx (y := (⟨"java/lang/StringUTF16", "length", "([B)I"⟩ : MethodName)) hown (mvT hZ (own_w hw 107 rfl)) (mvT hZ (own_w hw 108 rfl)) (mvT hZ (own_w hw 22 rfl)) (mvT hZ (own_w hw 109 rfl)) (by decide) (backOf (W := 1) (rm25 l Z a0 hw [] a2 k n f h0 n0 Z0 G1 hn0 hn1) hZ (own_w hw 109 rfl) (own_w hw 22 rfl) (by decide) (by decide)) (g := (mkF m 2 #[.val (.int p1), .val (.ref a2)] [(.ref a2), (.int p1)])) rfl (by rw [hml]; rfl) (argsL := [(.ref a2)]) (rest := [(.int p1)]) (lenOf pd_3 rfl) rfl (by show 2 * 0 + _ ≤ _; exact Nat.le_of_eq rfl) (hb hby d24_2) (fun _ _ => ⟨rfl, e0, (by decide : 0 + 0 ≤ _), (by decide : 0 + 0 ≤ _)⟩)
  dsimp only [Pt.U, Pt.locs, Pt.cells, Pt.slots] at X101 l101 y101 z101 st101 hQ101
  subst l101 y101 z101
  obtain ⟨rfl, Nq101, eq101⟩ := hQ101
  have N101 := Fr.app N0 Nq101
  refine EndsQ.go st101 ?_
  show EndsQ _ _ _ _ _ _ _ (T101.setTop (mkF m 5 #[.val (.int p1), .val (.ref a2)] [(.int n), (.int p1)]))
  obtain ⟨_, _, ⟨T102, L102, kk102, nn102⟩, -, X102, ⟨Lc102, hQ102, l102, y102, z102⟩, st102⟩ := Jvm.LawKit.callS X101 hx (y := (⟨"java/lang/String", "checkIndex", "(II)V"⟩ : MethodName)) hown (mvT hZ (own_w hw 110 rfl)) (mvT hZ (own_w hw 69 rfl)) (mvT hZ (own_w hw 8 rfl)) (mvT hZ (own_w hw 70 rfl)) (by decide) (backOf (W := 0) (rm15 l Z a0 hw [] p1 n cs fv h0 n0 Z0 ⟨S_C, hcs, S_F, hfv, S_A, S_H, S_L⟩ g0 g1) hZ (own_w hw 70 rfl) (own_w hw 8 rfl) (by decide) (by decide)) (g := (mkF m 5 #[.val (.int p1), .val (.ref a2)] [(.int n), (.int p1)])) rfl (by rw [hml]; rfl) (argsL := [(.int p1), (.int n)]) (rest := []) (lenOf pd_2 rfl) rfl (by show 2 * 0 + _ ≤ _; exact Nat.le_of_eq rfl) (hb hby d24_5) (fun _ _ => ⟨rfl, eq101, (by decide : 0 + 0 ≤ _), (by decide : 0 + 0 ≤ _)⟩)
  dsimp only [Pt.U, Pt.locs, Pt.cells, Pt.slots] at X102 l102 y102 z102 st102 hQ102
  subst l102 y102 z102
  obtain ⟨rfl, Nq102, eq102⟩ := hQ102
  have N102 := Fr.app N101 Nq102
  refine EndsQ.go st102 ?_
  show EndsQ _ _ _ _ _ _ _ (T102.setTop (mkF m 8 #[.val (.int p1), .val (.ref a2)] []))
  refine EndsQ.retV X102 hx Bd.notSynchronized Bd.returns (hb hby d24_8) (by decide) (by decide) ?_
  show Q24 Z p1 a2 cs fv k n f h0 n0 (none) T102.heap _
  rw [eq102]
  exact ⟨rfl, N102, rfl⟩
theorem ef_22 (m : MethodId) (x0 : Addr) (x1 : Int32) : entryFrame m #[(.ref x0), (.int x1)] 2 = mkF m 0 #[.val (.ref x0), .val (.int x1)] [] := by first | (simp [entryFrame, mkF, argsToLocals, Value.category]; done) | rfl
def Q22 (Z : State) (a1 : Addr) (p2 : Int32) (cs : Int32) (fv : Value) (k : ClassId) (n : Int32) (ch : Nat → Int32) (h0 : Heap) (n0 : Nat) (v : Option Value) (h : Heap) (L : List Loc) : Prop := v = some (.int (ch p2.toNatClampNeg)) ∧ Fr n0 L ∧ h = h0
set_option maxRecDepth 65536 in
set_option maxHeartbeats 40000000 in
theorem rm22 (l : Launch) (Z : State) (a0 : Array Value) (hw : ∀ d ∈ tables_1, d.before a0 Z = true) (ws : List Jvm.Cond) (a1 : Addr) (p2 : Int32) (cs : Int32) (fv : Value) (k : ClassId) (n : Int32) (ch : Nat → Int32) (h0 : Heap) (n0 : Nat) (Z0 : n0 ≤ h0.size) (ST : own_St Z h0 cs fv) (G1 : Arf Z h0 a1 k .byte (own_dbl n) (own_b16 ch)) (g0 : ¬ p2 < (0 : Int32)) (g1 : p2 < n) (hn1 : n.toInt < 1073741824) (hc : own_c16 ch) :
    MetFree l (⟨"java/lang/StringUTF16", "getChar", "([BI)C"⟩ : MethodName) (head1 (Jvm.Cond.code (⟨"java/lang/StringUTF16", "getChar", "([BI)C"⟩ : MethodName) jdk_52_method_5_code 2 (some .char) :: ws) ({ frames := 0, cells := 0, slots := 0, locals := 0 } : Room)) (fun a U => a = #[(.ref a1), (.int p2)] ∧ Z.Warmed39 U.vm ∧ U.heap = h0) (fun _ _ _ _ _ => True) (fun _ U o U' => ∃ v L, o = .returned v ∧ Q22 Z a1 p2 cs fv k n ch h0 n0 v U'.heap L ∧ FrameEnd U o U' L ({ frames := 0, cells := 0, slots := 0, locals := 0 } : Room).cells ({ frames := 0, cells := 0, slots := 0, locals := 0 } : Room).slots) := by
  refine MetFree.of_bodySF (plainFor_of_name pn_22) hisR ?_
  intro p e s m args below meth c s₁ Bd hml0 hP hK
  obtain ⟨rfl, hZ, hh⟩ := hP
  have hx := Bd.exec
  have hby := Bd.bytes
  have hml : c.maxLocals = 2 := hml0
  have hown : s.vm.findClass "java/lang/StringUTF16" = some m.cls := findClass_of_methodNamed Bd.named
  have hnm := (name_of_methodNamed Bd.named Bd.method).1
  have X0 : Stand p l e ({ frames := 0, cells := 0, slots := 0, locals := 0 } : Room) s m #[(.ref a1), (.int p2)] below meth c s₁ [] 0 0 := Stand.of_body Bd
  have e0 : s₁.heap = h0 := by rw [← hh, Bd.state]; rfl
  have N0 := Fr.nil n0
  show EndsQ p.tables e below s (fun v h L => Q22 Z a1 p2 cs fv k n ch h0 n0 v h L) ({ frames := 0, cells := 0, slots := 0, locals := 0 } : Room).cells ({ frames := 0, cells := 0, slots := 0, locals := 0 } : Room).slots _
  refine EndsQ.go (b := s₁.setTop (mkF m 0 #[.val (.ref a1), .val (.int p2)] [])) (fun t k => castTop (ef_22 m a1 p2) k) ?_
  obtain ⟨S_C, hcs, S_F, hfv, S_A, S_H, S_L⟩ := ST
  obtain ⟨T101, X101, e101, st101⟩ := getS X0 hx hZ hown (host := "") (own_w hw 95 rfl) Via.refl e0 S_A (g := (mkF m 0 #[.val (.ref a1), .val (.int p2)] [])) rfl (hb hby d22_0)
  refine EndsQ.go st101 ?_
  show EndsQ _ _ _ _ _ _ _ (T101.setTop (mkF m 3 #[.val (.ref a1), .val (.int p2)] [(.int (1 : Int32))]))
  refine EndsQ.go (b := T101.setTop (mkF m 31 #[.val (.ref a1), .val (.int p2)] [(.int (p2 <<< ((1 : Int32) &&& 31)))])) (fun t k => ?_) ?_
  · show Steps p.tables e below (T101.setTop (mkF m 3 #[.val (.ref a1), .val (.int p2)] [(.int (1 : Int32))])) _
    refine XS.ifYes X101.here hx rfl (pc0 := 3) (pc' := 28) rfl (hb hby d22_3) rfl ((if0 _ _).trans (feq (by decide)).2) (by decide) (by decide) ?_
    show Steps p.tables e below (T101.setTop (mkF m 28 #[.val (.ref a1), .val (.int p2)] [])) _
    refine XS.iloadN X101.here hx rfl (hb hby d22_28) rfl ?_
    refine XS.iconst X101.here hx rfl (hb hby d22_29) ?_
    refine XS.ishl X101.here hx rfl (hb hby d22_30) rfl ?_
    exact k
  show EndsQ _ _ _ _ _ _ _ (T101.setTop (mkF m 31 #[.val (.ref a1), .val (.int p2)] [(.int (own_dbl p2))]))
  refine EndsQ.go (b := T101.setTop (mkF m 37 #[.val (.ref a1), .val (.int ((own_dbl p2) + Int32.ofInt 1))] [(.int (own_dbl p2)), (.ref a1)])) (fun t k => ?_) ?_
  · show Steps p.tables e below (T101.setTop (mkF m 31 #[.val (.ref a1), .val (.int p2)] [(.int (own_dbl p2))])) _
    refine XS.istoreN X101.here hx rfl (hb hby d22_31) rfl (l' := #[.val (.ref a1), .val (.int (own_dbl p2))]) rfl ?_
    show Steps p.tables e below (T101.setTop (mkF m 32 #[.val (.ref a1), .val (.int (own_dbl p2))] [])) _
    refine XS.aloadN X101.here hx rfl (hb hby d22_32) rfl rfl ?_
    refine XS.iloadN X101.here hx rfl (hb hby d22_33) rfl ?_
    refine XS.iinc X101.here hx rfl (hb hby d22_34) rfl (l' := #[.val (.ref a1), .val (.int ((own_dbl p2) + Int32.ofInt 1))]) rfl ?_
    exact k
  obtain ⟨cl102, Ar102, q102, S102, M102, H102, G102⟩ := id G1
  have hin102 : ¬ ((own_dbl p2) < 0 ∨ cl102.slots.size ≤ ((own_dbl p2)).toNatClampNeg) := inb_of S102 (own_at0 p2 n g0 g1 hn1)
  have hat102 : cl102.slots[((own_dbl p2)).toNatClampNeg]? = some (.int (own_lo (ch (p2).toNatClampNeg))) := (H102 _ (Nat.lt_of_not_le fun y => hin102 (Or.inr y))).trans (congrArg some (own_b0 ch p2 n g0 g1 hn1))
  refine EndsQ.go (fun t k => X101.baloadBytes hx (j := (own_dbl p2)) (v := (.int (own_lo (ch (p2).toNatClampNeg)))) (by rw [e101]; exact Ar102.1) (State.isArrayOf_alike hZ.alike Ar102.2.1) Ar102.2.2 hin102 hat102 (g := (mkF m 37 #[.val (.ref a1), .val (.int ((own_dbl p2) + Int32.ofInt 1))] [(.int (own_dbl p2)), (.ref a1)])) rfl rfl (hb hby d22_37) _ k) ?_
  show EndsQ _ _ _ _ _ _ _ (T101.setTop (mkF m 38 #[.val (.ref a1), .val (.int ((own_dbl p2) + Int32.ofInt 1))] [(.int (own_lo (ch (p2).toNatClampNeg)))]))
  refine EndsQ.go (b := T101.setTop (mkF m 42 #[.val (.ref a1), .val (.int ((own_dbl p2) + Int32.ofInt 1))] [(.int ((own_lo (ch (p2).toNatClampNeg)) &&& (255 : Int32)))])) (fun t k => ?_) ?_
  · show Steps p.tables e below (T101.setTop (mkF m 38 #[.val (.ref a1), .val (.int ((own_dbl p2) + Int32.ofInt 1))] [(.int (own_lo (ch (p2).toNatClampNeg)))])) _
    refine XS.sipush X101.here hx rfl (hb hby d22_38) ?_
    show Steps p.tables e below (T101.setTop (mkF m 41 #[.val (.ref a1), .val (.int ((own_dbl p2) + Int32.ofInt 1))] [(.int (255 : Int32)), (.int (own_lo (ch (p2).toNatClampNeg)))])) _
    refine XS.iand X101.here hx rfl (hb hby d22_41) rfl ?_
    exact k
  obtain ⟨T103, X103, e103, st103⟩ := getS X101 hx hZ hown (host := "") (own_w hw 96 rfl) Via.refl e101 S_H (g := (mkF m 42 #[.val (.ref a1), .val (.int ((own_dbl p2) + Int32.ofInt 1))] [(.int ((own_lo (ch (p2).toNatClampNeg)) &&& (255 : Int32)))])) rfl (hb hby d22_42)
  refine EndsQ.go st103 ?_
  show EndsQ _ _ _ _ _ _ _ (T103.setTop (mkF m 45 #[.val (.ref a1), .val (.int ((own_dbl p2) + Int32.ofInt 1))] [(.int (0 : Int32)), (.int ((own_lo (ch (p2).toNatClampNeg)) &&& (255 : Int32)))]))
  refine EndsQ.go (b := T103.setTop (mkF m 48 #[.val (.ref a1), .val (.int ((own_dbl p2) + Int32.ofInt 1))] [(.int ((own_dbl p2) + Int32.ofInt 1)), (.ref a1), (.int (((own_lo (ch (p2).toNatClampNeg)) &&& (255 : Int32)) <<< ((0 : Int32) &&& 31)))])) (fun t k => ?_) ?_
  · show Steps p.tables e below (T103.setTop (mkF m 45 #[.val (.ref a1), .val (.int ((own_dbl p2) + Int32.ofInt 1))] [(.int (0 : Int32)), (.int ((own_lo (ch (p2).toNatClampNeg)) &&& (255 : Int32)))])) _
    refine XS.ishl X103.here hx rfl (hb hby d22_45) rfl ?_
    refine XS.aloadN X103.here hx rfl (hb hby d22_46) rfl rfl ?_
    refine XS.iloadN X103.here hx rfl (hb hby d22_47) rfl ?_
    show Steps p.tables e below (T103.setTop (mkF m 48 #[.val (.ref a1), .val (.int ((own_dbl p2) + Int32.ofInt 1))] [(.int ((own_dbl p2) + Int32.ofInt 1)), (.ref a1), (.int (((own_lo (ch (p2).toNatClampNeg)) &&& (255 : Int32)) <<< ((0 : Int32) &&& 31)))])) _
    exact k
  obtain ⟨cl104, Ar104, q104, S104, M104, H104, G104⟩ := id G1
  have hin104 : ¬ (((own_dbl p2) + Int32.ofInt 1) < 0 ∨ cl104.slots.size ≤ (((own_dbl p2) + Int32.ofInt 1)).toNatClampNeg) := inb_of S104 (own_at1 p2 n g0 g1 hn1)
  have hat104 : cl104.slots[(((own_dbl p2) + Int32.ofInt 1)).toNatClampNeg]? = some (.int (own_hi (ch (p2).toNatClampNeg))) := (H104 _ (Nat.lt_of_not_le fun y => hin104 (Or.inr y))).trans (congrArg some (own_b1 ch p2 n g0 g1 hn1))
  refine EndsQ.go (fun t k => X103.baloadBytes hx (j := ((own_dbl p2) + Int32.ofInt 1)) (v := (.int (own_hi (ch (p2).toNatClampNeg)))) (by rw [e103]; exact Ar104.1) (State.isArrayOf_alike hZ.alike Ar104.2.1) Ar104.2.2 hin104 hat104 (g := (mkF m 48 #[.val (.ref a1), .val (.int ((own_dbl p2) + Int32.ofInt 1))] [(.int ((own_dbl p2) + Int32.ofInt 1)), (.ref a1), (.int (((own_lo (ch (p2).toNatClampNeg)) &&& (255 : Int32)) <<< ((0 : Int32) &&& 31)))])) rfl rfl (hb hby d22_48) _ k) ?_
  show EndsQ _ _ _ _ _ _ _ (T103.setTop (mkF m 49 #[.val (.ref a1), .val (.int ((own_dbl p2) + Int32.ofInt 1))] [(.int (own_hi (ch (p2).toNatClampNeg))), (.int (((own_lo (ch (p2).toNatClampNeg)) &&& (255 : Int32)) <<< ((0 : Int32) &&& 31)))]))
  refine EndsQ.go (b := T103.setTop (mkF m 53 #[.val (.ref a1), .val (.int ((own_dbl p2) + Int32.ofInt 1))] [(.int ((own_hi (ch (p2).toNatClampNeg)) &&& (255 : Int32))), (.int (((own_lo (ch (p2).toNatClampNeg)) &&& (255 : Int32)) <<< ((0 : Int32) &&& 31)))])) (fun t k => ?_) ?_
  · show Steps p.tables e below (T103.setTop (mkF m 49 #[.val (.ref a1), .val (.int ((own_dbl p2) + Int32.ofInt 1))] [(.int (own_hi (ch (p2).toNatClampNeg))), (.int (((own_lo (ch (p2).toNatClampNeg)) &&& (255 : Int32)) <<< ((0 : Int32) &&& 31)))])) _
    refine XS.sipush X103.here hx rfl (hb hby d22_49) ?_
    refine XS.iand X103.here hx rfl (hb hby d22_52) rfl ?_
    exact k
  obtain ⟨T105, X105, e105, st105⟩ := getS X103 hx hZ hown (host := "") (own_w hw 97 rfl) Via.refl e103 S_L (g := (mkF m 53 #[.val (.ref a1), .val (.int ((own_dbl p2) + Int32.ofInt 1))] [(.int ((own_hi (ch (p2).toNatClampNeg)) &&& (255 : Int32))), (.int (((own_lo (ch (p2).toNatClampNeg)) &&& (255 : Int32)) <<< ((0 : Int32) &&& 31)))])) rfl (hb hby d22_53)
  refine EndsQ.go st105 ?_
  show EndsQ _ _ _ _ _ _ _ (T105.setTop (mkF m 56 #[.val (.ref a1), .val (.int ((own_dbl p2) + Int32.ofInt 1))] [(.int (8 : Int32)), (.int ((own_hi (ch (p2).toNatClampNeg)) &&& (255 : Int32))), (.int (((own_lo (ch (p2).toNatClampNeg)) &&& (255 : Int32)) <<< ((0 : Int32) &&& 31)))]))
  refine EndsQ.go (b := T105.setTop (mkF m 59 #[.val (.ref a1), .val (.int ((own_dbl p2) + Int32.ofInt 1))] [(.int (((((own_lo (ch (p2).toNatClampNeg)) &&& (255 : Int32)) <<< ((0 : Int32) &&& 31)) ||| (((own_hi (ch (p2).toNatClampNeg)) &&& (255 : Int32)) <<< ((8 : Int32) &&& 31))).toUInt32.toUInt16.toUInt32.toInt32))])) (fun t k => ?_) ?_
  · show Steps p.tables e below (T105.setTop (mkF m 56 #[.val (.ref a1), .val (.int ((own_dbl p2) + Int32.ofInt 1))] [(.int (8 : Int32)), (.int ((own_hi (ch (p2).toNatClampNeg)) &&& (255 : Int32))), (.int (((own_lo (ch (p2).toNatClampNeg)) &&& (255 : Int32)) <<< ((0 : Int32) &&& 31)))])) _
    refine XS.ishl X105.here hx rfl (hb hby d22_56) rfl ?_
    refine XS.ior X105.here hx rfl (hb hby d22_57) rfl ?_
    show Steps p.tables e below (T105.setTop (mkF m 58 #[.val (.ref a1), .val (.int ((own_dbl p2) + Int32.ofInt 1))] [(.int ((((own_lo (ch (p2).toNatClampNeg)) &&& (255 : Int32)) <<< ((0 : Int32) &&& 31)) ||| (((own_hi (ch (p2).toNatClampNeg)) &&& (255 : Int32)) <<< ((8 : Int32) &&& 31))))])) _
    refine XS.i2c X105.here hx rfl (hb hby d22_58) rfl ?_
    exact k
  refine EndsQ.retN X105 hx Bd.notSynchronized (t := .char) Bd.returns (by simp) (hb hby d22_59) (by decide) (by decide) ?_
  show Q22 Z a1 p2 cs fv k n ch h0 n0 (some (.int (nar .char (((((own_lo (ch (p2).toNatClampNeg)) &&& (255 : Int32)) <<< ((0 : Int32) &&& 31)) ||| (((own_hi (ch (p2).toNatClampNeg)) &&& (255 : Int32)) <<< ((8 : Int32) &&& 31))).toUInt32.toUInt16.toUInt32.toInt32)))) T105.heap _
  rw [e105]
  exact ⟨congrArg (fun z => some (Value.int z)) (own_gch _ (hc _).1 (hc _).2), N0, rfl⟩
theorem ef_23 (m : MethodId) (x0 : Addr) (x1 : Int32) : entryFrame m #[(.ref x0), (.int x1)] 2 = mkF m 0 #[.val (.ref x0), .val (.int x1)] [] := by first | (simp [entryFrame, mkF, argsToLocals, Value.category]; done) | rfl
def Q23 (Z : State) (a1 : Addr) (p2 : Int32) (cs : Int32) (fv : Value) (k : ClassId) (n : Int32) (ch : Nat → Int32) (h0 : Heap) (n0 : Nat) (v : Option Value) (h : Heap) (L : List Loc) : Prop := v = some (.int (ch p2.toNatClampNeg)) ∧ Fr n0 L ∧ h = h0
set_option maxRecDepth 65536 in
set_option maxHeartbeats 40000000 in
theorem rm23 (l : Launch) (Z : State) (a0 : Array Value) (hw : ∀ d ∈ tables_1, d.before a0 Z = true) (ws : List Jvm.Cond) (a1 : Addr) (p2 : Int32) (cs : Int32) (fv : Value) (k : ClassId) (n : Int32) (ch : Nat → Int32) (h0 : Heap) (n0 : Nat) (Z0 : n0 ≤ h0.size) (ST : own_St Z h0 cs fv) (G1 : Arf Z h0 a1 k .byte (own_dbl n) (own_b16 ch)) (g0 : ¬ p2 < (0 : Int32)) (g1 : p2 < n) (hn1 : n.toInt < 1073741824) (hc : own_c16 ch) (hn0 : 0 ≤ n.toInt) :
    MetFree l (⟨"java/lang/StringUTF16", "charAt", "([BI)C"⟩ : MethodName) (head1 (Jvm.Cond.code (⟨"java/lang/StringUTF16", "charAt", "([BI)C"⟩ : MethodName) jdk_52_method_83_code 2 (some .char) :: ws) ({ frames := 3, cells := 0, slots := 0, locals := 48 } : Room)) (fun a U => a = #[(.ref a1), (.int p2)] ∧ Z.Warmed39 U.vm ∧ U.heap = h0) (fun _ _ _ _ _ => True) (fun _ U o U' => ∃ v L, o = .returned v ∧ Q23 Z a1 p2 cs fv k n ch h0 n0 v U'.heap L ∧ FrameEnd U o U' L ({ frames := 3, cells := 0, slots := 0, locals := 48 } : Room).cells ({ frames := 3, cells := 0, slots := 0, locals := 48 } : Room).slots) := by
  refine MetFree.of_bodySF (plainFor_of_name pn_23) hisR ?_
  intro p e s m args below meth c s₁ Bd hml0 hP hK
  obtain ⟨rfl, hZ, hh⟩ := hP
  have hx := Bd.exec
  have hby := Bd.bytes
  have hml : c.maxLocals = 2 := hml0
  have hown : s.vm.findClass "java/lang/StringUTF16" = some m.cls := findClass_of_methodNamed Bd.named
  have hnm := (name_of_methodNamed Bd.named Bd.method).1
  have X0 : Stand p l e ({ frames := 3, cells := 0, slots := 0, locals := 48 } : Room) s m #[(.ref a1), (.int p2)] below meth c s₁ [] 0 0 := Stand.of_body Bd
  have e0 : s₁.heap = h0 := by rw [← hh, Bd.state]; rfl
  have N0 := Fr.nil n0
  show EndsQ p.tables e below s (fun v h L => Q23 Z a1 p2 cs fv k n ch h0 n0 v h L) ({ frames := 3, cells := 0, slots := 0, locals := 48 } : Room).cells ({ frames := 3, cells := 0, slots := 0, locals := 48 } : Room).slots _
  refine EndsQ.go (b := s₁.setTop (mkF m 0 #[.val (.ref a1), .val (.int p2)] [])) (fun t k => castTop (ef_23 m a1 p2) k) ?_
  obtain ⟨S_C, hcs, S_F, hfv, S_A, S_H, S_L⟩ := ST
  refine EndsQ.go (b := s₁.setTop (mkF m 2 #[.val (.ref a1), .val (.int p2)] [(.ref a1), (.int p2)])) (fun t k => ?_) ?_
  · show Steps p.tables e below (s₁.setTop (mkF m 0 #[.val (.ref a1), .val (.int p2)] [])) _
    refine XS.iloadN X0.here hx rfl (hb hby d23_0) rfl ?_
    refine XS.aloadN X0.here hx rfl (hb hby d23_1) rfl rfl ?_
    exact k
  obtain ⟨_, _, ⟨T101, L101, kk101, nn101⟩, -, X101, ⟨Lc101, hQ101, l101, y101, z101⟩, st101⟩ := Jvm.LawKit.callS X0 hx (y := (⟨"java/lang/StringUTF16", "checkIndex", "(I[B)V"⟩ : MethodName)) hown (mvT hZ (own_w hw 104 rfl)) (mvT hZ (own_w hw 105 rfl)) (mvT hZ (own_w hw 22 rfl)) (mvT hZ (own_w hw 106 rfl)) (by decide) (backOf (W := 0) (rm24 l Z a0 hw [] p2 a1 cs fv k n (own_b16 ch) h0 n0 Z0 ⟨S_C, hcs, S_F, hfv, S_A, S_H, S_L⟩ G1 hn0 hn1 g0 g1) hZ (own_w hw 106 rfl) (own_w hw 22 rfl) (by decide) (by decide)) (g := (mkF m 2 #[.val (.ref a1), .val (.int p2)] [(.ref a1), (.int p2)])) rfl (by rw [hml]; rfl) (argsL := [(.int p2), (.ref a1)]) (rest := []) (lenOf pd_4 rfl) rfl (by show 2 * 0 + _ ≤ _; exact Nat.le_of_eq rfl) (hb hby d23_2) (fun _ _ => ⟨rfl, e0, (by decide : 0 + 0 ≤ _), (by decide : 0 + 0 ≤ _)⟩)
  dsimp only [Pt.U, Pt.locs, Pt.cells, Pt.slots] at X101 l101 y101 z101 st101 hQ101
  subst l101 y101 z101
  obtain ⟨rfl, Nq101, eq101⟩ := hQ101
  have N101 := Fr.app N0 Nq101
  refine EndsQ.go st101 ?_
  show EndsQ _ _ _ _ _ _ _ (T101.setTop (mkF m 5 #[.val (.ref a1), .val (.int p2)] []))
  refine EndsQ.go (b := T101.setTop (mkF m 7 #[.val (.ref a1), .val (.int p2)] [(.int p2), (.ref a1)])) (fun t k => ?_) ?_
  · show Steps p.tables e below (T101.setTop (mkF m 5 #[.val (.ref a1), .val (.int p2)] [])) _
    refine XS.aloadN X101.here hx rfl (hb hby d23_5) rfl rfl ?_
    refine XS.iloadN X101.here hx rfl (hb hby d23_6) rfl ?_
    show Steps p.tables e below (T101.setTop (mkF m 7 #[.val (.ref a1), .val (.int p2)] [(.int p2), (.ref a1)])) _
    exact k
  obtain ⟨_, _, ⟨T102, L102, kk102, nn102⟩, -, X102, ⟨Lc102, hQ102, l102, y102, z102⟩, st102⟩ := Jvm.LawKit.callS X101 hx (y := (⟨"java/lang/StringUTF16", "getChar", "([BI)C"⟩ : MethodName)) hown (mvT hZ (own_w hw 98 rfl)) (mvT hZ (own_w hw 99 rfl)) (mvT hZ (own_w hw 22 rfl)) (mvT hZ (own_w hw 100 rfl)) (by decide) (backOf (W := 0) (rm22 l Z a0 hw [] a1 p2 cs fv k n ch h0 n0 Z0 ⟨S_C, hcs, S_F, hfv, S_A, S_H, S_L⟩ G1 g0 g1 hn1 hc) hZ (own_w hw 100 rfl) (own_w hw 22 rfl) (by decide) (by decide)) (g := (mkF m 7 #[.val (.ref a1), .val (.int p2)] [(.int p2), (.ref a1)])) rfl (by rw [hml]; rfl) (argsL := [(.ref a1), (.int p2)]) (rest := []) (lenOf pd_5 rfl) rfl (by show 2 * 0 + _ ≤ _; exact Nat.le_of_eq rfl) (hb hby d23_7) (fun _ _ => ⟨rfl, eq101, (by decide : 0 + 0 ≤ _), (by decide : 0 + 0 ≤ _)⟩)
  dsimp only [Pt.U, Pt.locs, Pt.cells, Pt.slots] at X102 l102 y102 z102 st102 hQ102
  subst l102 y102 z102
  obtain ⟨rfl, Nq102, eq102⟩ := hQ102
  have N102 := Fr.app N101 Nq102
  refine EndsQ.go st102 ?_
  show EndsQ _ _ _ _ _ _ _ (T102.setTop (mkF m 10 #[.val (.ref a1), .val (.int p2)] [(.int (ch p2.toNatClampNeg))]))
  refine EndsQ.retN X102 hx Bd.notSynchronized (t := .char) Bd.returns (by simp) (hb hby d23_10) (by decide) (by decide) ?_
  show Q23 Z a1 p2 cs fv k n ch h0 n0 (some (.int (nar .char (ch p2.toNatClampNeg)))) T102.heap _
  rw [eq102]
  exact ⟨congrArg (fun z => some (Value.int z)) (own_nc _ (hc _).1 (hc _).2), N102, rfl⟩
theorem ef_ChL (m : MethodId) (x0 : Addr) (x1 : Int32) : entryFrame m #[(.ref x0), (.int x1)] 2 = mkF m 0 #[.val (.ref x0), .val (.int x1)] [] := by first | (simp [entryFrame, mkF, argsToLocals, Value.category]; done) | rfl
def QChL (Z : State) (a1 : Addr) (p2 : Int32) (cs : Int32) (fv : Value) (b : Addr) (k : ClassId) (n : Int32) (ch : Nat → Int32) (h0 : Heap) (n0 : Nat) (v : Option Value) (h : Heap) (L : List Loc) : Prop := v = some (.int (ch p2.toNatClampNeg)) ∧ Fr n0 L ∧ h = h0
set_option maxRecDepth 65536 in
set_option maxHeartbeats 40000000 in
theorem rmChL (l : Launch) (Z : State) (a0 : Array Value) (hw : ∀ d ∈ tables_1, d.before a0 Z = true) (ws : List Jvm.Cond) (a1 : Addr) (p2 : Int32) (cs : Int32) (fv : Value) (b : Addr) (k : ClassId) (n : Int32) (ch : Nat → Int32) (h0 : Heap) (n0 : Nat) (Z0 : n0 ≤ h0.size) (ST : own_St Z h0 cs fv) (E1 : Exa Z h0 a1 "java/lang/String") (F_v : Fld Z h0 a1 "java/lang/String" "value" "[B" (.ref b)) (F_c : Fld Z h0 a1 "java/lang/String" "coder" "B" (.int (0 : Int32))) (G1 : Arf Z h0 b k .byte n (own_l1 ch)) (g0 : ¬ p2 < (0 : Int32)) (g1 : p2 < n) (hc : 0 ≤ (ch p2.toNatClampNeg).toInt) (hl : (ch p2.toNatClampNeg).toInt < 256) :
    MetFree l (⟨"java/lang/String", "charAt", "(I)C"⟩ : MethodName) (head1 (Jvm.Cond.code (⟨"java/lang/String", "charAt", "(I)C"⟩ : MethodName) jdk_42_method_56_code 2 (some .char) :: ws) ({ frames := 4, cells := 0, slots := 0, locals := 64 } : Room)) (fun a U => a = #[(.ref a1), (.int p2)] ∧ Z.Warmed39 U.vm ∧ U.heap = h0) (fun _ _ _ _ _ => True) (fun _ U o U' => ∃ v L, o = .returned v ∧ QChL Z a1 p2 cs fv b k n ch h0 n0 v U'.heap L ∧ FrameEnd U o U' L ({ frames := 4, cells := 0, slots := 0, locals := 64 } : Room).cells ({ frames := 4, cells := 0, slots := 0, locals := 64 } : Room).slots) := by
  refine MetFree.of_bodySF (plainFor_of_name pn_12) hisR ?_
  intro p e s m args below meth c s₁ Bd hml0 hP hK
  obtain ⟨rfl, hZ, hh⟩ := hP
  have hx := Bd.exec
  have hby := Bd.bytes
  have hml : c.maxLocals = 2 := hml0
  have hown : s.vm.findClass "java/lang/String" = some m.cls := findClass_of_methodNamed Bd.named
  have hnm := (name_of_methodNamed Bd.named Bd.method).1
  have X0 : Stand p l e ({ frames := 4, cells := 0, slots := 0, locals := 64 } : Room) s m #[(.ref a1), (.int p2)] below meth c s₁ [] 0 0 := Stand.of_body Bd
  have e0 : s₁.heap = h0 := by rw [← hh, Bd.state]; rfl
  have N0 := Fr.nil n0
  show EndsQ p.tables e below s (fun v h L => QChL Z a1 p2 cs fv b k n ch h0 n0 v h L) ({ frames := 4, cells := 0, slots := 0, locals := 64 } : Room).cells ({ frames := 4, cells := 0, slots := 0, locals := 64 } : Room).slots _
  refine EndsQ.go (b := s₁.setTop (mkF m 0 #[.val (.ref a1), .val (.int p2)] [])) (fun t k => castTop (ef_ChL m a1 p2) k) ?_
  obtain ⟨S_C, hcs, S_F, hfv, S_A, S_H, S_L⟩ := ST
  refine EndsQ.go (b := s₁.setTop (mkF m 1 #[.val (.ref a1), .val (.int p2)] [(.ref a1)])) (fun t k => ?_) ?_
  · show Steps p.tables e below (s₁.setTop (mkF m 0 #[.val (.ref a1), .val (.int p2)] [])) _
    refine XS.aloadN X0.here hx rfl (hb hby d12_0) rfl rfl ?_
    exact k
  obtain ⟨cq101, kq101, qa101, qb101, qc101⟩ := isOf hZ e0 E1
  obtain ⟨_, _, ⟨T101, L101, kk101, nn101⟩, -, X101, ⟨Lc101, hQ101, l101, y101, z101⟩, st101⟩ := X0.virtualBack hx (y := (⟨"java/lang/String", "isLatin1", "()Z"⟩ : MethodName)) (z := (⟨"java/lang/String", "isLatin1", "()Z"⟩ : MethodName)) hown (mvT hZ (own_w hw 59 rfl)) (mvT hZ (own_w hw 60 rfl)) (notFace_of_selects (args := #[]) (mvT hZ (own_w hw 62 rfl))) (mvT hZ (own_w hw 62 rfl)) (mvT hZ (own_w hw 61 rfl)) (by decide) (backOf (W := 0) (rm13 l Z a0 hw [] a1 cs fv (0 : Int32) (1 : Int32) h0 n0 Z0 ⟨S_C, hcs, S_F, hfv, S_A, S_H, S_L⟩ F_c rfl) hZ (own_w hw 63 rfl) (own_w hw 8 rfl) (by decide) (by decide)) qa101 qc101 (g := (mkF m 1 #[.val (.ref a1), .val (.int p2)] [(.ref a1)])) rfl (by rw [hml]; rfl) (Steps.refl _) (argsL := []) (rest := []) (lenOf pd_6 rfl) rfl (by show 2 * 0 + _ ≤ _; exact Nat.le_of_eq rfl) (hb hby d12_1) (fun _ _ => ⟨rfl, e0, (by decide : 0 + 0 ≤ _), (by decide : 0 + 0 ≤ _)⟩)
  dsimp only [Pt.U, Pt.locs, Pt.cells, Pt.slots] at X101 l101 y101 z101 st101 hQ101
  subst l101 y101 z101
  obtain ⟨rfl, Nq101, eq101⟩ := hQ101
  have N101 := Fr.app N0 Nq101
  refine EndsQ.go (fun t k => st101.trans k) ?_
  show EndsQ _ _ _ _ _ _ _ (T101.setTop (mkF m 4 #[.val (.ref a1), .val (.int p2)] [(.int (1 : Int32))]))
  refine EndsQ.go (b := T101.setTop (mkF m 8 #[.val (.ref a1), .val (.int p2)] [(.ref a1)])) (fun t k => ?_) ?_
  · show Steps p.tables e below (T101.setTop (mkF m 4 #[.val (.ref a1), .val (.int p2)] [(.int (1 : Int32))])) _
    refine XS.ifNo X101.here hx rfl (hb hby d12_4) rfl ((if0 _ _).trans (feq (by decide)).1) ?_
    show Steps p.tables e below (T101.setTop (mkF m 7 #[.val (.ref a1), .val (.int p2)] [])) _
    refine XS.aloadN X101.here hx rfl (hb hby d12_7) rfl rfl ?_
    exact k
  obtain ⟨T102, X102, e102, st102⟩ := getF X101 hx hZ hown (host := "") (Or.inl (own_w hw 33 rfl)) Via.refl eq101 F_v (g := (mkF m 8 #[.val (.ref a1), .val (.int p2)] [(.ref a1)])) rfl rfl (hb hby d12_8)
  refine EndsQ.go st102 ?_
  show EndsQ _ _ _ _ _ _ _ (T102.setTop (mkF m 11 #[.val (.ref a1), .val (.int p2)] [(.ref b)]))
  refine EndsQ.go (b := T102.setTop (mkF m 12 #[.val (.ref a1), .val (.int p2)] [(.int p2), (.ref b)])) (fun t k => ?_) ?_
  · show Steps p.tables e below (T102.setTop (mkF m 11 #[.val (.ref a1), .val (.int p2)] [(.ref b)])) _
    refine XS.iloadN X102.here hx rfl (hb hby d12_11) rfl ?_
    exact k
  obtain ⟨_, _, ⟨T103, L103, kk103, nn103⟩, -, X103, ⟨Lc103, hQ103, l103, y103, z103⟩, st103⟩ := Jvm.LawKit.callS X102 hx (y := (⟨"java/lang/StringLatin1", "charAt", "([BI)C"⟩ : MethodName)) hown (mvT hZ (own_w hw 64 rfl)) (mvT hZ (own_w hw 65 rfl)) (mvT hZ (own_w hw 66 rfl)) (mvT hZ (own_w hw 67 rfl)) (by decide) (backOf (W := 0) (rm14 l Z a0 hw [] b p2 cs fv k n ch h0 n0 Z0 ⟨S_C, hcs, S_F, hfv, S_A, S_H, S_L⟩ G1 g0 g1 hc hl) hZ (own_w hw 67 rfl) (own_w hw 66 rfl) (by decide) (by decide)) (g := (mkF m 12 #[.val (.ref a1), .val (.int p2)] [(.int p2), (.ref b)])) rfl (by rw [hml]; rfl) (argsL := [(.ref b), (.int p2)]) (rest := []) (lenOf pd_5 rfl) rfl (by show 2 * 0 + _ ≤ _; exact Nat.le_of_eq rfl) (hb hby d12_12) (fun _ _ => ⟨rfl, e102, (by decide : 0 + 0 ≤ _), (by decide : 0 + 0 ≤ _)⟩)
  dsimp only [Pt.U, Pt.locs, Pt.cells, Pt.slots] at X103 l103 y103 z103 st103 hQ103
  subst l103 y103 z103
  obtain ⟨rfl, Nq103, eq103⟩ := hQ103
  have N103 := Fr.app N101 Nq103
  refine EndsQ.go st103 ?_
  show EndsQ _ _ _ _ _ _ _ (T103.setTop (mkF m 15 #[.val (.ref a1), .val (.int p2)] [(.int (ch p2.toNatClampNeg))]))
  refine EndsQ.retN X103 hx Bd.notSynchronized (t := .char) Bd.returns (by simp) (hb hby d12_15) (by decide) (by decide) ?_
  show QChL Z a1 p2 cs fv b k n ch h0 n0 (some (.int (nar .char (ch p2.toNatClampNeg)))) T103.heap _
  rw [eq103]
  exact ⟨congrArg (fun z => some (Value.int z)) (own_nc _ hc (Int.lt_trans hl (by decide))), N103, rfl⟩
theorem ef_ChU (m : MethodId) (x0 : Addr) (x1 : Int32) : entryFrame m #[(.ref x0), (.int x1)] 2 = mkF m 0 #[.val (.ref x0), .val (.int x1)] [] := by first | (simp [entryFrame, mkF, argsToLocals, Value.category]; done) | rfl
def QChU (Z : State) (a1 : Addr) (p2 : Int32) (cs : Int32) (fv : Value) (b : Addr) (k : ClassId) (n : Int32) (ch : Nat → Int32) (h0 : Heap) (n0 : Nat) (v : Option Value) (h : Heap) (L : List Loc) : Prop := v = some (.int (ch p2.toNatClampNeg)) ∧ Fr n0 L ∧ h = h0
set_option maxRecDepth 65536 in
set_option maxHeartbeats 40000000 in
theorem rmChU (l : Launch) (Z : State) (a0 : Array Value) (hw : ∀ d ∈ tables_1, d.before a0 Z = true) (ws : List Jvm.Cond) (a1 : Addr) (p2 : Int32) (cs : Int32) (fv : Value) (b : Addr) (k : ClassId) (n : Int32) (ch : Nat → Int32) (h0 : Heap) (n0 : Nat) (Z0 : n0 ≤ h0.size) (ST : own_St Z h0 cs fv) (E1 : Exa Z h0 a1 "java/lang/String") (F_v : Fld Z h0 a1 "java/lang/String" "value" "[B" (.ref b)) (F_c : Fld Z h0 a1 "java/lang/String" "coder" "B" (.int (1 : Int32))) (G1 : Arf Z h0 b k .byte (own_dbl n) (own_b16 ch)) (g0 : ¬ p2 < (0 : Int32)) (g1 : p2 < n) (hn1 : n.toInt < 1073741824) (hn0 : 0 ≤ n.toInt) (hc : own_c16 ch) :
    MetFree l (⟨"java/lang/String", "charAt", "(I)C"⟩ : MethodName) (head1 (Jvm.Cond.code (⟨"java/lang/String", "charAt", "(I)C"⟩ : MethodName) jdk_42_method_56_code 2 (some .char) :: ws) ({ frames := 4, cells := 0, slots := 0, locals := 64 } : Room)) (fun a U => a = #[(.ref a1), (.int p2)] ∧ Z.Warmed39 U.vm ∧ U.heap = h0) (fun _ _ _ _ _ => True) (fun _ U o U' => ∃ v L, o = .returned v ∧ QChU Z a1 p2 cs fv b k n ch h0 n0 v U'.heap L ∧ FrameEnd U o U' L ({ frames := 4, cells := 0, slots := 0, locals := 64 } : Room).cells ({ frames := 4, cells := 0, slots := 0, locals := 64 } : Room).slots) := by
  refine MetFree.of_bodySF (plainFor_of_name pn_12) hisR ?_
  intro p e s m args below meth c s₁ Bd hml0 hP hK
  obtain ⟨rfl, hZ, hh⟩ := hP
  have hx := Bd.exec
  have hby := Bd.bytes
  have hml : c.maxLocals = 2 := hml0
  have hown : s.vm.findClass "java/lang/String" = some m.cls := findClass_of_methodNamed Bd.named
  have hnm := (name_of_methodNamed Bd.named Bd.method).1
  have X0 : Stand p l e ({ frames := 4, cells := 0, slots := 0, locals := 64 } : Room) s m #[(.ref a1), (.int p2)] below meth c s₁ [] 0 0 := Stand.of_body Bd
  have e0 : s₁.heap = h0 := by rw [← hh, Bd.state]; rfl
  have N0 := Fr.nil n0
  show EndsQ p.tables e below s (fun v h L => QChU Z a1 p2 cs fv b k n ch h0 n0 v h L) ({ frames := 4, cells := 0, slots := 0, locals := 64 } : Room).cells ({ frames := 4, cells := 0, slots := 0, locals := 64 } : Room).slots _
  refine EndsQ.go (b := s₁.setTop (mkF m 0 #[.val (.ref a1), .val (.int p2)] [])) (fun t k => castTop (ef_ChU m a1 p2) k) ?_
  obtain ⟨S_C, hcs, S_F, hfv, S_A, S_H, S_L⟩ := ST
  refine EndsQ.go (b := s₁.setTop (mkF m 1 #[.val (.ref a1), .val (.int p2)] [(.ref a1)])) (fun t k => ?_) ?_
  · show Steps p.tables e below (s₁.setTop (mkF m 0 #[.val (.ref a1), .val (.int p2)] [])) _
    refine XS.aloadN X0.here hx rfl (hb hby d12_0) rfl rfl ?_
    exact k
  obtain ⟨cq101, kq101, qa101, qb101, qc101⟩ := isOf hZ e0 E1
  obtain ⟨_, _, ⟨T101, L101, kk101, nn101⟩, -, X101, ⟨Lc101, hQ101, l101, y101, z101⟩, st101⟩ := X0.virtualBack hx (y := (⟨"java/lang/String", "isLatin1", "()Z"⟩ : MethodName)) (z := (⟨"java/lang/String", "isLatin1", "()Z"⟩ : MethodName)) hown (mvT hZ (own_w hw 59 rfl)) (mvT hZ (own_w hw 60 rfl)) (notFace_of_selects (args := #[]) (mvT hZ (own_w hw 62 rfl))) (mvT hZ (own_w hw 62 rfl)) (mvT hZ (own_w hw 61 rfl)) (by decide) (backOf (W := 0) (rm13 l Z a0 hw [] a1 cs fv (1 : Int32) (0 : Int32) h0 n0 Z0 ⟨S_C, hcs, S_F, hfv, S_A, S_H, S_L⟩ F_c rfl) hZ (own_w hw 63 rfl) (own_w hw 8 rfl) (by decide) (by decide)) qa101 qc101 (g := (mkF m 1 #[.val (.ref a1), .val (.int p2)] [(.ref a1)])) rfl (by rw [hml]; rfl) (Steps.refl _) (argsL := []) (rest := []) (lenOf pd_6 rfl) rfl (by show 2 * 0 + _ ≤ _; exact Nat.le_of_eq rfl) (hb hby d12_1) (fun _ _ => ⟨rfl, e0, (by decide : 0 + 0 ≤ _), (by decide : 0 + 0 ≤ _)⟩)
  dsimp only [Pt.U, Pt.locs, Pt.cells, Pt.slots] at X101 l101 y101 z101 st101 hQ101
  subst l101 y101 z101
  obtain ⟨rfl, Nq101, eq101⟩ := hQ101
  have N101 := Fr.app N0 Nq101
  refine EndsQ.go (fun t k => st101.trans k) ?_
  show EndsQ _ _ _ _ _ _ _ (T101.setTop (mkF m 4 #[.val (.ref a1), .val (.int p2)] [(.int (0 : Int32))]))
  refine EndsQ.go (b := T101.setTop (mkF m 17 #[.val (.ref a1), .val (.int p2)] [(.ref a1)])) (fun t k => ?_) ?_
  · show Steps p.tables e below (T101.setTop (mkF m 4 #[.val (.ref a1), .val (.int p2)] [(.int (0 : Int32))])) _
    refine XS.ifYes X101.here hx rfl (pc0 := 4) (pc' := 16) rfl (hb hby d12_4) rfl ((if0 _ _).trans (teq (by decide)).1) (by decide) (by decide) ?_
    show Steps p.tables e below (T101.setTop (mkF m 16 #[.val (.ref a1), .val (.int p2)] [])) _
    refine XS.aloadN X101.here hx rfl (hb hby d12_16) rfl rfl ?_
    exact k
  obtain ⟨T102, X102, e102, st102⟩ := getF X101 hx hZ hown (host := "") (Or.inl (own_w hw 33 rfl)) Via.refl eq101 F_v (g := (mkF m 17 #[.val (.ref a1), .val (.int p2)] [(.ref a1)])) rfl rfl (hb hby d12_17)
  refine EndsQ.go st102 ?_
  show EndsQ _ _ _ _ _ _ _ (T102.setTop (mkF m 20 #[.val (.ref a1), .val (.int p2)] [(.ref b)]))
  refine EndsQ.go (b := T102.setTop (mkF m 21 #[.val (.ref a1), .val (.int p2)] [(.int p2), (.ref b)])) (fun t k => ?_) ?_
  · show Steps p.tables e below (T102.setTop (mkF m 20 #[.val (.ref a1), .val (.int p2)] [(.ref b)])) _
    refine XS.iloadN X102.here hx rfl (hb hby d12_20) rfl ?_
    exact k
  obtain ⟨_, _, ⟨T103, L103, kk103, nn103⟩, -, X103, ⟨Lc103, hQ103, l103, y103, z103⟩, st103⟩ := Jvm.LawKit.callS X102 hx (y := (⟨"java/lang/StringUTF16", "charAt", "([BI)C"⟩ : MethodName)) hown (mvT hZ (own_w hw 101 rfl)) (mvT hZ (own_w hw 102 rfl)) (mvT hZ (own_w hw 22 rfl)) (mvT hZ (own_w hw 103 rfl)) (by decide) (backOf (W := 0) (rm23 l Z a0 hw [] b p2 cs fv k n ch h0 n0 Z0 ⟨S_C, hcs, S_F, hfv, S_A, S_H, S_L⟩ G1 g0 g1 hn1 hc hn0) hZ (own_w hw 103 rfl) (own_w hw 22 rfl) (by decide) (by decide)) (g := (mkF m 21 #[.val (.ref a1), .val (.int p2)] [(.int p2), (.ref b)])) rfl (by rw [hml]; rfl) (argsL := [(.ref b), (.int p2)]) (rest := []) (lenOf pd_5 rfl) rfl (by show 2 * 0 + _ ≤ _; exact Nat.le_of_eq rfl) (hb hby d12_21) (fun _ _ => ⟨rfl, e102, (by decide : 0 + 0 ≤ _), (by decide : 0 + 0 ≤ _)⟩)
  dsimp only [Pt.U, Pt.locs, Pt.cells, Pt.slots] at X103 l103 y103 z103 st103 hQ103
  subst l103 y103 z103
  obtain ⟨rfl, Nq103, eq103⟩ := hQ103
  have N103 := Fr.app N101 Nq103
  refine EndsQ.go st103 ?_
  show EndsQ _ _ _ _ _ _ _ (T103.setTop (mkF m 24 #[.val (.ref a1), .val (.int p2)] [(.int (ch p2.toNatClampNeg))]))
  refine EndsQ.retN X103 hx Bd.notSynchronized (t := .char) Bd.returns (by simp) (hb hby d12_24) (by decide) (by decide) ?_
  show QChU Z a1 p2 cs fv b k n ch h0 n0 (some (.int (nar .char (ch p2.toNatClampNeg)))) T103.heap _
  rw [eq103]
  exact ⟨congrArg (fun z => some (Value.int z)) (own_nc _ (hc _).1 (hc _).2), N103, rfl⟩
def QEmS (Z : State) (a1 : Addr) (cs : Int32) (fv : Value) (n : Int32) (ch : Nat → Int32) (h0 : Heap) (n0 : Nat) (v : Option Value) (h : Heap) (L : List Loc) : Prop := v = some (.int (own_isl n)) ∧ Fr n0 L ∧ h = h0
set_option maxRecDepth 65536 in
set_option maxHeartbeats 40000000 in
theorem rmEmS (l : Launch) (Z : State) (a0 : Array Value) (hw : ∀ d ∈ tables_1, d.before a0 Z = true) (ws : List Jvm.Cond) (a1 : Addr) (cs : Int32) (fv : Value) (n : Int32) (ch : Nat → Int32) (h0 : Heap) (n0 : Nat) (Z0 : n0 ≤ h0.size) (ST : own_St Z h0 cs fv) (Y1 : own_Str Z h0 a1 n ch) (hn0 : ¬ n < (0 : Int32)) (hn1 : n.toInt < 1073741824) (hc : own_c16 ch) :
    MetFree l (⟨"java/lang/String", "isEmpty", "()Z"⟩ : MethodName) (head1 (Jvm.Cond.code (⟨"java/lang/String", "isEmpty", "()Z"⟩ : MethodName) jdk_42_method_55_code 1 (some .boolean) :: ws) ({ frames := 0, cells := 0, slots := 0, locals := 0 } : Room)) (fun a U => a = #[(.ref a1)] ∧ Z.Warmed39 U.vm ∧ U.heap = h0) (fun _ _ _ _ _ => True) (fun _ U o U' => ∃ v L, o = .returned v ∧ QEmS Z a1 cs fv n ch h0 n0 v U'.heap L ∧ FrameEnd U o U' L ({ frames := 0, cells := 0, slots := 0, locals := 0 } : Room).cells ({ frames := 0, cells := 0, slots := 0, locals := 0 } : Room).slots) := by
  obtain ⟨E1, b, k, F_v, Y1 | Y1⟩ := Y1
  · obtain ⟨F_c, G1, hl⟩ := Y1
    exact rm9 l Z a0 hw ws a1 b k n _ _ h0 n0 Z0 F_v G1 rfl
  · obtain ⟨F_c, G1⟩ := Y1
    exact rm9 l Z a0 hw ws a1 b k _ _ _ h0 n0 Z0 F_v G1 (own_idbl n hn0 hn1)
def QLeS (Z : State) (a1 : Addr) (cs : Int32) (fv : Value) (n : Int32) (ch : Nat → Int32) (h0 : Heap) (n0 : Nat) (v : Option Value) (h : Heap) (L : List Loc) : Prop := v = some (.int n) ∧ Fr n0 L ∧ h = h0
set_option maxRecDepth 65536 in
set_option maxHeartbeats 40000000 in
theorem rmLeS (l : Launch) (Z : State) (a0 : Array Value) (hw : ∀ d ∈ tables_1, d.before a0 Z = true) (ws : List Jvm.Cond) (a1 : Addr) (cs : Int32) (fv : Value) (n : Int32) (ch : Nat → Int32) (h0 : Heap) (n0 : Nat) (Z0 : n0 ≤ h0.size) (ST : own_St Z h0 cs fv) (Y1 : own_Str Z h0 a1 n ch) (hn0 : ¬ n < (0 : Int32)) (hn1 : n.toInt < 1073741824) (hc : own_c16 ch) :
    MetFree l (⟨"java/lang/String", "length", "()I"⟩ : MethodName) (head1 (Jvm.Cond.code (⟨"java/lang/String", "length", "()I"⟩ : MethodName) jdk_42_method_54_code 1 (some .int) :: ws) ({ frames := 1, cells := 0, slots := 0, locals := 16 } : Room)) (fun a U => a = #[(.ref a1)] ∧ Z.Warmed39 U.vm ∧ U.heap = h0) (fun _ _ _ _ _ => True) (fun _ U o U' => ∃ v L, o = .returned v ∧ QLeS Z a1 cs fv n ch h0 n0 v U'.heap L ∧ FrameEnd U o U' L ({ frames := 1, cells := 0, slots := 0, locals := 16 } : Room).cells ({ frames := 1, cells := 0, slots := 0, locals := 16 } : Room).slots) := by
  have hn00 : 0 ≤ n.toInt := by rw [own_lt] at hn0; exact Int.not_lt.mp hn0
  obtain ⟨E1, b, k, F_v, Y1 | Y1⟩ := Y1
  · obtain ⟨F_c, G1, hl⟩ := Y1
    exact rm10 l Z a0 hw ws a1 cs fv b k n _ _ _ h0 n0 Z0 ST E1 F_v F_c G1 rfl (own_sh0 n)
  · obtain ⟨F_c, G1⟩ := Y1
    exact rm10 l Z a0 hw ws a1 cs fv b k _ _ _ _ h0 n0 Z0 ST E1 F_v F_c G1 rfl (own_half n hn00 hn1)
def QChS (Z : State) (a1 : Addr) (p2 : Int32) (cs : Int32) (fv : Value) (n : Int32) (ch : Nat → Int32) (h0 : Heap) (n0 : Nat) (v : Option Value) (h : Heap) (L : List Loc) : Prop := v = some (.int (ch p2.toNatClampNeg)) ∧ Fr n0 L ∧ h = h0
set_option maxRecDepth 65536 in
set_option maxHeartbeats 40000000 in
theorem rmChS (l : Launch) (Z : State) (a0 : Array Value) (hw : ∀ d ∈ tables_1, d.before a0 Z = true) (ws : List Jvm.Cond) (a1 : Addr) (p2 : Int32) (cs : Int32) (fv : Value) (n : Int32) (ch : Nat → Int32) (h0 : Heap) (n0 : Nat) (Z0 : n0 ≤ h0.size) (ST : own_St Z h0 cs fv) (Y1 : own_Str Z h0 a1 n ch) (hn0 : ¬ n < (0 : Int32)) (hn1 : n.toInt < 1073741824) (hc : own_c16 ch) (g0 : ¬ p2 < (0 : Int32)) (g1 : p2 < n) :
    MetFree l (⟨"java/lang/String", "charAt", "(I)C"⟩ : MethodName) (head1 (Jvm.Cond.code (⟨"java/lang/String", "charAt", "(I)C"⟩ : MethodName) jdk_42_method_56_code 2 (some .char) :: ws) ({ frames := 4, cells := 0, slots := 0, locals := 64 } : Room)) (fun a U => a = #[(.ref a1), (.int p2)] ∧ Z.Warmed39 U.vm ∧ U.heap = h0) (fun _ _ _ _ _ => True) (fun _ U o U' => ∃ v L, o = .returned v ∧ QChS Z a1 p2 cs fv n ch h0 n0 v U'.heap L ∧ FrameEnd U o U' L ({ frames := 4, cells := 0, slots := 0, locals := 64 } : Room).cells ({ frames := 4, cells := 0, slots := 0, locals := 64 } : Room).slots) := by
  have hn00 : 0 ≤ n.toInt := by rw [own_lt] at hn0; exact Int.not_lt.mp hn0
  obtain ⟨E1, b, k, F_v, Y1 | Y1⟩ := Y1
  · obtain ⟨F_c, G1, hl⟩ := Y1
    exact rmChL l Z a0 hw ws a1 p2 cs fv b k n ch h0 n0 Z0 ST E1 F_v F_c G1 g0 g1 (hc _).1 (hl _ (own_pos p2 n g0 g1))
  · obtain ⟨F_c, G1⟩ := Y1
    exact rmChU l Z a0 hw ws a1 p2 cs fv b k n ch h0 n0 Z0 ST E1 F_v F_c G1 g0 g1 hn1 hn00 hc
theorem ef_21 (m : MethodId) (x0 : Addr) (x1 : Int32) (x2 : Int32) : entryFrame m #[(.ref x0), (.int x1), (.int x2)] 3 = mkF m 0 #[.val (.ref x0), .val (.int x1), .val (.int x2)] [] := by first | (simp [entryFrame, mkF, argsToLocals, Value.category]; done) | rfl
def Q21 (Z : State) (a1 : Addr) (p2 : Int32) (p3 : Int32) (cs : Int32) (fv : Value) (k : ClassId) (n : Int32) (f : Nat → Value) (h0 : Heap) (n0 : Nat) (v : Option Value) (h : Heap) (L : List Loc) : Prop := v = none ∧ Fr n0 L ∧ Keep h0 h [a1] ∧ Arf Z h a1 k .byte (own_dbl n) (own_upd (own_upd f (own_dbl p2).toNatClampNeg (.int (own_lo p3))) ((own_dbl p2) + Int32.ofInt 1).toNatClampNeg (.int (own_hi p3)))
set_option maxRecDepth 65536 in
set_option maxHeartbeats 40000000 in
theorem rm21 (l : Launch) (Z : State) (a0 : Array Value) (hw : ∀ d ∈ tables_1, d.before a0 Z = true) (ws : List Jvm.Cond) (a1 : Addr) (p2 : Int32) (p3 : Int32) (cs : Int32) (fv : Value) (k : ClassId) (n : Int32) (f : Nat → Value) (h0 : Heap) (n0 : Nat) (Z0 : n0 ≤ h0.size) (ST : own_St Z h0 cs fv) (G1 : Arf Z h0 a1 k .byte (own_dbl n) f) (g0 : ¬ p2 < (0 : Int32)) (g1 : p2 < n) (hn1 : n.toInt < 1073741824) (g2 : n0 ≤ a1) :
    MetFree l (⟨"java/lang/StringUTF16", "putChar", "([BII)V"⟩ : MethodName) (head1 (Jvm.Cond.code (⟨"java/lang/StringUTF16", "putChar", "([BII)V"⟩ : MethodName) jdk_52_method_4_code 3 none :: ws) ({ frames := 0, cells := 0, slots := 0, locals := 0 } : Room)) (fun a U => a = #[(.ref a1), (.int p2), (.int p3)] ∧ Z.Warmed39 U.vm ∧ U.heap = h0) (fun _ _ _ _ _ => True) (fun _ U o U' => ∃ v L, o = .returned v ∧ Q21 Z a1 p2 p3 cs fv k n f h0 n0 v U'.heap L ∧ FrameEnd U o U' L ({ frames := 0, cells := 0, slots := 0, locals := 0 } : Room).cells ({ frames := 0, cells := 0, slots := 0, locals := 0 } : Room).slots) := by
  refine MetFree.of_bodySF (plainFor_of_name pn_21) hisR ?_
  intro p e s m args below meth c s₁ Bd hml0 hP hK
  obtain ⟨rfl, hZ, hh⟩ := hP
  have hx := Bd.exec
  have hby := Bd.bytes
  have hml : c.maxLocals = 3 := hml0
  have hown : s.vm.findClass "java/lang/StringUTF16" = some m.cls := findClass_of_methodNamed Bd.named
  have hnm := (name_of_methodNamed Bd.named Bd.method).1
  have X0 : Stand p l e ({ frames := 0, cells := 0, slots := 0, locals := 0 } : Room) s m #[(.ref a1), (.int p2), (.int p3)] below meth c s₁ [] 0 0 := Stand.of_body Bd
  have e0 : s₁.heap = h0 := by rw [← hh, Bd.state]; rfl
  have N0 := Fr.nil n0
  show EndsQ p.tables e below s (fun v h L => Q21 Z a1 p2 p3 cs fv k n f h0 n0 v h L) ({ frames := 0, cells := 0, slots := 0, locals := 0 } : Room).cells ({ frames := 0, cells := 0, slots := 0, locals := 0 } : Room).slots _
  refine EndsQ.go (b := s₁.setTop (mkF m 0 #[.val (.ref a1), .val (.int p2), .val (.int p3)] [])) (fun t k => castTop (ef_21 m a1 p2 p3) k) ?_
  obtain ⟨S_C, hcs, S_F, hfv, S_A, S_H, S_L⟩ := ST
  have K0 : Keep h0 h0 [a1] := Keep.refl _ _
  obtain ⟨T101, X101, e101, st101⟩ := getS X0 hx hZ hown (host := "") (own_w hw 95 rfl) Via.refl e0 S_A (g := (mkF m 0 #[.val (.ref a1), .val (.int p2), .val (.int p3)] [])) rfl (hb hby d21_0)
  refine EndsQ.go st101 ?_
  show EndsQ _ _ _ _ _ _ _ (T101.setTop (mkF m 3 #[.val (.ref a1), .val (.int p2), .val (.int p3)] [(.int (1 : Int32))]))
  refine EndsQ.go (b := T101.setTop (mkF m 31 #[.val (.ref a1), .val (.int p2), .val (.int p3)] [(.int (p2 <<< ((1 : Int32) &&& 31)))])) (fun t k => ?_) ?_
  · show Steps p.tables e below (T101.setTop (mkF m 3 #[.val (.ref a1), .val (.int p2), .val (.int p3)] [(.int (1 : Int32))])) _
    refine XS.ifYes X101.here hx rfl (pc0 := 3) (pc' := 28) rfl (hb hby d21_3) rfl ((if0 _ _).trans (feq (by decide)).2) (by decide) (by decide) ?_
    show Steps p.tables e below (T101.setTop (mkF m 28 #[.val (.ref a1), .val (.int p2), .val (.int p3)] [])) _
    refine XS.iloadN X101.here hx rfl (hb hby d21_28) rfl ?_
    refine XS.iconst X101.here hx rfl (hb hby d21_29) ?_
    refine XS.ishl X101.here hx rfl (hb hby d21_30) rfl ?_
    exact k
  show EndsQ _ _ _ _ _ _ _ (T101.setTop (mkF m 31 #[.val (.ref a1), .val (.int p2), .val (.int p3)] [(.int (own_dbl p2))]))
  refine EndsQ.go (b := T101.setTop (mkF m 38 #[.val (.ref a1), .val (.int ((own_dbl p2) + Int32.ofInt 1)), .val (.int p3)] [(.int p3), (.int (own_dbl p2)), (.ref a1)])) (fun t k => ?_) ?_
  · show Steps p.tables e below (T101.setTop (mkF m 31 #[.val (.ref a1), .val (.int p2), .val (.int p3)] [(.int (own_dbl p2))])) _
    refine XS.istoreN X101.here hx rfl (hb hby d21_31) rfl (l' := #[.val (.ref a1), .val (.int (own_dbl p2)), .val (.int p3)]) rfl ?_
    show Steps p.tables e below (T101.setTop (mkF m 32 #[.val (.ref a1), .val (.int (own_dbl p2)), .val (.int p3)] [])) _
    refine XS.aloadN X101.here hx rfl (hb hby d21_32) rfl rfl ?_
    refine XS.iloadN X101.here hx rfl (hb hby d21_33) rfl ?_
    refine XS.iinc X101.here hx rfl (hb hby d21_34) rfl (l' := #[.val (.ref a1), .val (.int ((own_dbl p2) + Int32.ofInt 1)), .val (.int p3)]) rfl ?_
    refine XS.iloadN X101.here hx rfl (hb hby d21_37) rfl ?_
    show Steps p.tables e below (T101.setTop (mkF m 38 #[.val (.ref a1), .val (.int ((own_dbl p2) + Int32.ofInt 1)), .val (.int p3)] [(.int p3), (.int (own_dbl p2)), (.ref a1)])) _
    exact k
  obtain ⟨T102, X102, e102, st102⟩ := getS X101 hx hZ hown (host := "") (own_w hw 96 rfl) Via.refl e101 S_H (g := (mkF m 38 #[.val (.ref a1), .val (.int ((own_dbl p2) + Int32.ofInt 1)), .val (.int p3)] [(.int p3), (.int (own_dbl p2)), (.ref a1)])) rfl (hb hby d21_38)
  refine EndsQ.go st102 ?_
  show EndsQ _ _ _ _ _ _ _ (T102.setTop (mkF m 41 #[.val (.ref a1), .val (.int ((own_dbl p2) + Int32.ofInt 1)), .val (.int p3)] [(.int (0 : Int32)), (.int p3), (.int (own_dbl p2)), (.ref a1)]))
  refine EndsQ.go (b := T102.setTop (mkF m 43 #[.val (.ref a1), .val (.int ((own_dbl p2) + Int32.ofInt 1)), .val (.int p3)] [(.int ((p3 >>> ((0 : Int32) &&& 31)).toInt8.toInt32)), (.int (own_dbl p2)), (.ref a1)])) (fun t k => ?_) ?_
  · show Steps p.tables e below (T102.setTop (mkF m 41 #[.val (.ref a1), .val (.int ((own_dbl p2) + Int32.ofInt 1)), .val (.int p3)] [(.int (0 : Int32)), (.int p3), (.int (own_dbl p2)), (.ref a1)])) _
    refine XS.ishr X102.here hx rfl (hb hby d21_41) rfl ?_
    refine XS.i2b X102.here hx rfl (hb hby d21_42) rfl ?_
    exact k
  obtain ⟨cl103, Ar103, q103, S103, M103, H103, G103⟩ := id G1
  have hin103 : ¬ ((own_dbl p2) < 0 ∨ cl103.slots.size ≤ ((own_dbl p2)).toNatClampNeg) := inb_of S103 (own_at0 p2 n g0 g1 hn1)
  obtain ⟨T103, h103, X103, e103, W103, st103⟩ := stB X102 hx hZ e102 Ar103 (j := (own_dbl p2)) hin103 (g := (mkF m 43 #[.val (.ref a1), .val (.int ((own_dbl p2) + Int32.ofInt 1)), .val (.int p3)] [(.int ((p3 >>> ((0 : Int32) &&& 31)).toInt8.toInt32)), (.int (own_dbl p2)), (.ref a1)])) rfl rfl (hb hby d21_43)
  have fa103 := Arf.set (v := .int (nar .byte ((p3 >>> ((0 : Int32) &&& 31)).toInt8.toInt32))) Ar103 q103 S103 M103 H103 G103 (fits_nar_byte ((p3 >>> ((0 : Int32) &&& 31)).toInt8.toInt32)) W103
  have f104 := Nat.le_trans Z0 (Keep.of_wr W103).1
  have f105 := S_C.wr W103
  have f106 := S_F.wr W103
  have f107 := S_A.wr W103
  have f108 := S_H.wr W103
  have f109 := S_L.wr W103
  have f110 := K0.wr W103 (Or.inl (List.mem_of_getElem? (i := 0) rfl))
  have N103 := Fr.snoc X103 N0 g2
  refine EndsQ.go st103 ?_
  show EndsQ _ _ _ _ _ _ _ (T103.setTop (mkF m 44 #[.val (.ref a1), .val (.int ((own_dbl p2) + Int32.ofInt 1)), .val (.int p3)] []))
  refine EndsQ.go (b := T103.setTop (mkF m 47 #[.val (.ref a1), .val (.int ((own_dbl p2) + Int32.ofInt 1)), .val (.int p3)] [(.int p3), (.int ((own_dbl p2) + Int32.ofInt 1)), (.ref a1)])) (fun t k => ?_) ?_
  · show Steps p.tables e below (T103.setTop (mkF m 44 #[.val (.ref a1), .val (.int ((own_dbl p2) + Int32.ofInt 1)), .val (.int p3)] [])) _
    refine XS.aloadN X103.here hx rfl (hb hby d21_44) rfl rfl ?_
    refine XS.iloadN X103.here hx rfl (hb hby d21_45) rfl ?_
    show Steps p.tables e below (T103.setTop (mkF m 46 #[.val (.ref a1), .val (.int ((own_dbl p2) + Int32.ofInt 1)), .val (.int p3)] [(.int ((own_dbl p2) + Int32.ofInt 1)), (.ref a1)])) _
    refine XS.iloadN X103.here hx rfl (hb hby d21_46) rfl ?_
    exact k
  obtain ⟨T111, X111, e111, st111⟩ := getS X103 hx hZ hown (host := "") (own_w hw 97 rfl) Via.refl e103 f109 (g := (mkF m 47 #[.val (.ref a1), .val (.int ((own_dbl p2) + Int32.ofInt 1)), .val (.int p3)] [(.int p3), (.int ((own_dbl p2) + Int32.ofInt 1)), (.ref a1)])) rfl (hb hby d21_47)
  refine EndsQ.go st111 ?_
  show EndsQ _ _ _ _ _ _ _ (T111.setTop (mkF m 50 #[.val (.ref a1), .val (.int ((own_dbl p2) + Int32.ofInt 1)), .val (.int p3)] [(.int (8 : Int32)), (.int p3), (.int ((own_dbl p2) + Int32.ofInt 1)), (.ref a1)]))
  refine EndsQ.go (b := T111.setTop (mkF m 52 #[.val (.ref a1), .val (.int ((own_dbl p2) + Int32.ofInt 1)), .val (.int p3)] [(.int ((p3 >>> ((8 : Int32) &&& 31)).toInt8.toInt32)), (.int ((own_dbl p2) + Int32.ofInt 1)), (.ref a1)])) (fun t k => ?_) ?_
  · show Steps p.tables e below (T111.setTop (mkF m 50 #[.val (.ref a1), .val (.int ((own_dbl p2) + Int32.ofInt 1)), .val (.int p3)] [(.int (8 : Int32)), (.int p3), (.int ((own_dbl p2) + Int32.ofInt 1)), (.ref a1)])) _
    refine XS.ishr X111.here hx rfl (hb hby d21_50) rfl ?_
    refine XS.i2b X111.here hx rfl (hb hby d21_51) rfl ?_
    exact k
  obtain ⟨cl112, Ar112, q112, S112, M112, H112, G112⟩ := id fa103
  have hin112 : ¬ (((own_dbl p2) + Int32.ofInt 1) < 0 ∨ cl112.slots.size ≤ (((own_dbl p2) + Int32.ofInt 1)).toNatClampNeg) := inb_of S112 (own_at1 p2 n g0 g1 hn1)
  obtain ⟨T112, h112, X112, e112, W112, st112⟩ := stB X111 hx hZ e111 Ar112 (j := ((own_dbl p2) + Int32.ofInt 1)) hin112 (g := (mkF m 52 #[.val (.ref a1), .val (.int ((own_dbl p2) + Int32.ofInt 1)), .val (.int p3)] [(.int ((p3 >>> ((8 : Int32) &&& 31)).toInt8.toInt32)), (.int ((own_dbl p2) + Int32.ofInt 1)), (.ref a1)])) rfl rfl (hb hby d21_52)
  have fa112 := Arf.set (v := .int (nar .byte ((p3 >>> ((8 : Int32) &&& 31)).toInt8.toInt32))) Ar112 q112 S112 M112 H112 G112 (fits_nar_byte ((p3 >>> ((8 : Int32) &&& 31)).toInt8.toInt32)) W112
  have f113 := Nat.le_trans f104 (Keep.of_wr W112).1
  have f114 := f105.wr W112
  have f115 := f106.wr W112
  have f116 := f107.wr W112
  have f117 := f108.wr W112
  have f118 := f109.wr W112
  have f119 := f110.wr W112 (Or.inl (List.mem_of_getElem? (i := 0) rfl))
  have N112 := Fr.snoc X112 N103 g2
  refine EndsQ.go st112 ?_
  show EndsQ _ _ _ _ _ _ _ (T112.setTop (mkF m 53 #[.val (.ref a1), .val (.int ((own_dbl p2) + Int32.ofInt 1)), .val (.int p3)] []))
  refine EndsQ.retV X112 hx Bd.notSynchronized Bd.returns (hb hby d21_53) (by decide) (by decide) ?_
  show Q21 Z a1 p2 p3 cs fv k n f h0 n0 (none) T112.heap _
  rw [e112]
  have q := fa112
  rw [own_plo, own_phi] at q
  exact ⟨rfl, N112, f119, q⟩
theorem ef_20 (m : MethodId) (x0 : Int32) : entryFrame m #[(.int x0)] 1 = mkF m 0 #[.val (.int x0)] [] := by first | (simp [entryFrame, mkF, argsToLocals, Value.category]; done) | rfl
def Q20 (Z : State) (p1 : Int32) (h0 : Heap) (n0 : Nat) (v : Option Value) (h : Heap) (L : List Loc) : Prop := v = some (.int (own_dbl p1)) ∧ Fr n0 L ∧ h = h0
set_option maxRecDepth 65536 in
set_option maxHeartbeats 40000000 in
theorem rm20 (l : Launch) (Z : State) (a0 : Array Value) (hw : ∀ d ∈ tables_1, d.before a0 Z = true) (ws : List Jvm.Cond) (p1 : Int32) (h0 : Heap) (n0 : Nat) (Z0 : n0 ≤ h0.size) (g0 : ¬ p1 < (0 : Int32)) (g1 : p1 < (1073741823 : Int32)) :
    MetFree l (⟨"java/lang/StringUTF16", "newBytesLength", "(I)I"⟩ : MethodName) (head1 (Jvm.Cond.code (⟨"java/lang/StringUTF16", "newBytesLength", "(I)I"⟩ : MethodName) jdk_52_method_3_code 1 (some .int) :: ws) ({ frames := 0, cells := 0, slots := 0, locals := 0 } : Room)) (fun a U => a = #[(.int p1)] ∧ Z.Warmed39 U.vm ∧ U.heap = h0) (fun _ _ _ _ _ => True) (fun _ U o U' => ∃ v L, o = .returned v ∧ Q20 Z p1 h0 n0 v U'.heap L ∧ FrameEnd U o U' L ({ frames := 0, cells := 0, slots := 0, locals := 0 } : Room).cells ({ frames := 0, cells := 0, slots := 0, locals := 0 } : Room).slots) := by
  refine MetFree.of_bodySF (plainFor_of_name pn_20) hisR ?_
  intro p e s m args below meth c s₁ Bd hml0 hP hK
  obtain ⟨rfl, hZ, hh⟩ := hP
  have hx := Bd.exec
  have hby := Bd.bytes
  have hml : c.maxLocals = 1 := hml0
  have hown : s.vm.findClass "java/lang/StringUTF16" = some m.cls := findClass_of_methodNamed Bd.named
  have hnm := (name_of_methodNamed Bd.named Bd.method).1
  have X0 : Stand p l e ({ frames := 0, cells := 0, slots := 0, locals := 0 } : Room) s m #[(.int p1)] below meth c s₁ [] 0 0 := Stand.of_body Bd
  have e0 : s₁.heap = h0 := by rw [← hh, Bd.state]; rfl
  have N0 := Fr.nil n0
  show EndsQ p.tables e below s (fun v h L => Q20 Z p1 h0 n0 v h L) ({ frames := 0, cells := 0, slots := 0, locals := 0 } : Room).cells ({ frames := 0, cells := 0, slots := 0, locals := 0 } : Room).slots _
  refine EndsQ.go (b := s₁.setTop (mkF m 0 #[.val (.int p1)] [])) (fun t k => castTop (ef_20 m p1) k) ?_
  refine EndsQ.go (b := s₁.setTop (mkF m 58 #[.val (.int p1)] [(.int (p1 <<< ((1 : Int32) &&& 31)))])) (fun t k => ?_) ?_
  · show Steps p.tables e below (s₁.setTop (mkF m 0 #[.val (.int p1)] [])) _
    refine XS.iloadN X0.here hx rfl (hb hby d20_0) rfl ?_
    refine XS.ifYes X0.here hx rfl (pc0 := 1) (pc' := 12) rfl (hb hby d20_1) rfl ((if0 _ _).trans (flt g0).2.1) (by decide) (by decide) ?_
    show Steps p.tables e below (s₁.setTop (mkF m 12 #[.val (.int p1)] [])) _
    refine XS.iloadN X0.here hx rfl (hb hby d20_12) rfl ?_
    refine X0.ldcInt hx hown (mvT hZ (own_w hw 91 rfl)) (g := (mkF m 13 #[.val (.int p1)] [(.int p1)])) rfl (hb hby d20_13) _ ?_
    refine XS.icmpYes X0.here hx rfl (pc0 := 15) (pc' := 55) rfl (hb hby d20_15) rfl (tlt g1).1 (by decide) (by decide) ?_
    show Steps p.tables e below (s₁.setTop (mkF m 55 #[.val (.int p1)] [])) _
    refine XS.iloadN X0.here hx rfl (hb hby d20_55) rfl ?_
    show Steps p.tables e below (s₁.setTop (mkF m 56 #[.val (.int p1)] [(.int p1)])) _
    refine XS.iconst X0.here hx rfl (hb hby d20_56) ?_
    refine XS.ishl X0.here hx rfl (hb hby d20_57) rfl ?_
    exact k
  show EndsQ _ _ _ _ _ _ _ (s₁.setTop (mkF m 58 #[.val (.int p1)] [(.int (own_dbl p1))]))
  refine EndsQ.retI X0 hx Bd.notSynchronized Bd.returns (hb hby d20_58) (by decide) (by decide) ?_
  show Q20 Z p1 h0 n0 (some (.int (own_dbl p1))) s₁.heap _
  rw [e0]
  exact ⟨rfl, N0, rfl⟩
theorem ef_19 (m : MethodId) (x0 : Int32) : entryFrame m #[(.int x0)] 1 = mkF m 0 #[.val (.int x0)] [] := by first | (simp [entryFrame, mkF, argsToLocals, Value.category]; done) | rfl
def Q19 (Z : State) (p1 : Int32) (h0 : Heap) (n0 : Nat) (v : Option Value) (h : Heap) (L : List Loc) : Prop := ∃ (b : Addr) (kb : ClassId), v = some (.ref b) ∧ Fr n0 L ∧ Keep h0 h [] ∧ h0.size ≤ b ∧ Arf Z h b kb .byte (own_dbl p1) (fun _ => .int (0 : Int32))
set_option maxRecDepth 65536 in
set_option maxHeartbeats 40000000 in
theorem rm19 (l : Launch) (Z : State) (a0 : Array Value) (hw : ∀ d ∈ tables_1, d.before a0 Z = true) (ws : List Jvm.Cond) (p1 : Int32) (h0 : Heap) (n0 : Nat) (Z0 : n0 ≤ h0.size) (g0 : ¬ p1 < (0 : Int32)) (hM : p1.toInt ≤ (33 : Nat)) :
    MetFree l (⟨"java/lang/StringUTF16", "newBytesFor", "(I)[B"⟩ : MethodName) (head1 (Jvm.Cond.code (⟨"java/lang/StringUTF16", "newBytesFor", "(I)[B"⟩ : MethodName) jdk_52_method_2_code 1 (some (.array .byte)) :: ws) ({ frames := 1, cells := 1, slots := 66, locals := 16 } : Room)) (fun a U => a = #[(.int p1)] ∧ Z.Warmed39 U.vm ∧ U.heap = h0) (fun _ _ _ _ _ => True) (fun _ U o U' => ∃ v L, o = .returned v ∧ Q19 Z p1 h0 n0 v U'.heap L ∧ FrameEnd U o U' L ({ frames := 1, cells := 1, slots := 66, locals := 16 } : Room).cells ({ frames := 1, cells := 1, slots := 66, locals := 16 } : Room).slots) := by
  refine MetFree.of_bodySF (plainFor_of_name pn_19) hisR ?_
  intro p e s m args below meth c s₁ Bd hml0 hP hK
  obtain ⟨rfl, hZ, hh⟩ := hP
  have hx := Bd.exec
  have hby := Bd.bytes
  have hml : c.maxLocals = 1 := hml0
  have hown : s.vm.findClass "java/lang/StringUTF16" = some m.cls := findClass_of_methodNamed Bd.named
  have hnm := (name_of_methodNamed Bd.named Bd.method).1
  have X0 : Stand p l e ({ frames := 1, cells := 1, slots := 66, locals := 16 } : Room) s m #[(.int p1)] below meth c s₁ [] 0 0 := Stand.of_body Bd
  have e0 : s₁.heap = h0 := by rw [← hh, Bd.state]; rfl
  have N0 := Fr.nil n0
  show EndsQ p.tables e below s (fun v h L => Q19 Z p1 h0 n0 v h L) ({ frames := 1, cells := 1, slots := 66, locals := 16 } : Room).cells ({ frames := 1, cells := 1, slots := 66, locals := 16 } : Room).slots _
  refine EndsQ.go (b := s₁.setTop (mkF m 0 #[.val (.int p1)] [])) (fun t k => castTop (ef_19 m p1) k) ?_
  have K0 : Keep h0 h0 [] := Keep.refl _ _
  refine EndsQ.go (b := s₁.setTop (mkF m 1 #[.val (.int p1)] [(.int p1)])) (fun t k => ?_) ?_
  · show Steps p.tables e below (s₁.setTop (mkF m 0 #[.val (.int p1)] [])) _
    refine XS.iloadN X0.here hx rfl (hb hby d19_0) rfl ?_
    exact k
  obtain ⟨_, _, ⟨T101, L101, kk101, nn101⟩, -, X101, ⟨Lc101, hQ101, l101, y101, z101⟩, st101⟩ := Jvm.LawKit.callS X0 hx (y := (⟨"java/lang/StringUTF16", "newBytesLength", "(I)I"⟩ : MethodName)) hown (mvT hZ (own_w hw 88 rfl)) (mvT hZ (own_w hw 89 rfl)) (mvT hZ (own_w hw 22 rfl)) (mvT hZ (own_w hw 90 rfl)) (by decide) (backOf (W := 0) (rm20 l Z a0 hw [] p1 h0 n0 Z0 g0 (own_small p1 33 hM (by decide))) hZ (own_w hw 90 rfl) (own_w hw 22 rfl) (by decide) (by decide)) (g := (mkF m 1 #[.val (.int p1)] [(.int p1)])) rfl (by rw [hml]; rfl) (argsL := [(.int p1)]) (rest := []) (lenOf pd_7 rfl) rfl (by show 2 * 0 + _ ≤ _; exact Nat.le_of_eq rfl) (hb hby d19_1) (fun _ _ => ⟨rfl, e0, (by decide : 0 + 0 ≤ _), (by decide : 0 + 0 ≤ _)⟩)
  dsimp only [Pt.U, Pt.locs, Pt.cells, Pt.slots] at X101 l101 y101 z101 st101 hQ101
  subst l101 y101 z101
  obtain ⟨rfl, Nq101, eq101⟩ := hQ101
  have N101 := Fr.app N0 Nq101
  refine EndsQ.go st101 ?_
  show EndsQ _ _ _ _ _ _ _ (T101.setTop (mkF m 4 #[.val (.int p1)] [(.int (own_dbl p1))]))
  obtain ⟨T102, h102, k102, X102, e102, E102, A102, st102⟩ := newP X101 hx hZ (own_w hw 24 rfl) eq101 (g := (mkF m 4 #[.val (.int p1)] [(.int (own_dbl p1))])) rfl (hb hby d19_4) rfl (own_dneg p1 g0 (Int.lt_of_le_of_lt hM (by decide))) (cap := 66) (own_dcap p1 33 g0 hM (by decide)) (by decide) (by decide) (by decide)
  obtain ⟨b102, g102⟩ : ∃ z, z = h0.size := ⟨_, rfl⟩
  rw [← g102] at A102 st102
  have gn102 : n0 ≤ b102 := Nat.le_trans Z0 (Nat.le_of_eq g102.symm)
  have gh102 : h0.size ≤ b102 := Nat.le_trans K0.1 (Nat.le_of_eq g102.symm)
  have f103 := Nat.le_trans Z0 E102.1
  have f104 := K0.ext E102
  have f105 : Arf Z h102 b102 k102 .byte (own_dbl p1) (fun _ => .int (0 : Int32)) := Arf.new A102 (own_dneg p1 g0 (Int.lt_of_le_of_lt hM (by decide)))
  refine EndsQ.go st102 ?_
  show EndsQ _ _ _ _ _ _ _ (T102.setTop (mkF m 6 #[.val (.int p1)] [(.ref b102)]))
  refine EndsQ.retA X102 hx Bd.notSynchronized (w := (.ref b102)) Bd.returns rfl rfl rfl (hb hby d19_6) (by decide) (by decide) ?_
  show Q19 Z p1 h0 n0 (some (.ref b102)) T102.heap _
  rw [e102]
  exact ⟨b102, k102, rfl, N101, f104, gh102, f105⟩
theorem ef_18 (m : MethodId) (x0 : Addr) (x1 : Int32) (x2 : Int32) : entryFrame m #[(.ref x0), (.int x1), (.int x2)] 5 = mkF m 0 #[.val (.ref x0), .val (.int x1), .val (.int x2), .unset, .unset] [] := by first | (simp [entryFrame, mkF, argsToLocals, Value.category]; done) | rfl
def Q18 (Z : State) (a1 : Addr) (p3 : Int32) (cs : Int32) (fv : Value) (k : ClassId) (ch : Nat → Int32) (h0 : Heap) (n0 : Nat) (v : Option Value) (h : Heap) (L : List Loc) : Prop := ∃ (b : Addr) (kb : ClassId), v = some (.ref b) ∧ Fr n0 L ∧ Keep h0 h [] ∧ h0.size ≤ b ∧ Arf Z h b kb .byte (own_dbl p3) (own_b16 ch)
set_option maxRecDepth 65536 in
set_option maxHeartbeats 40000000 in
theorem rm18 (l : Launch) (Z : State) (a0 : Array Value) (hw : ∀ d ∈ tables_1, d.before a0 Z = true) (ws : List Jvm.Cond) (a1 : Addr) (p3 : Int32) (cs : Int32) (fv : Value) (k : ClassId) (ch : Nat → Int32) (h0 : Heap) (n0 : Nat) (Z0 : n0 ≤ h0.size) (ST : own_St Z h0 cs fv) (G1 : Arf Z h0 a1 k .char p3 (own_cv ch)) (g0 : ¬ p3 < (0 : Int32)) (hM : p3.toInt ≤ (33 : Nat)) :
    MetFree l (⟨"java/lang/StringUTF16", "toBytes", "([CII)[B"⟩ : MethodName) (head1 (Jvm.Cond.code (⟨"java/lang/StringUTF16", "toBytes", "([CII)[B"⟩ : MethodName) jdk_52_method_14_code 5 (some (.array .byte)) :: ws) ({ frames := 2, cells := 1, slots := 66, locals := 32 } : Room)) (fun a U => a = #[(.ref a1), (.int (0 : Int32)), (.int p3)] ∧ Z.Warmed39 U.vm ∧ U.heap = h0) (fun _ _ _ _ _ => True) (fun _ U o U' => ∃ v L, o = .returned v ∧ Q18 Z a1 p3 cs fv k ch h0 n0 v U'.heap L ∧ FrameEnd U o U' L ({ frames := 2, cells := 1, slots := 66, locals := 32 } : Room).cells ({ frames := 2, cells := 1, slots := 66, locals := 32 } : Room).slots) := by
  refine MetFree.of_bodySF (plainFor_of_name pn_18) hisR ?_
  intro p e s m args below meth c s₁ Bd hml0 hP hK
  obtain ⟨rfl, hZ, hh⟩ := hP
  have hx := Bd.exec
  have hby := Bd.bytes
  have hml : c.maxLocals = 5 := hml0
  have hown : s.vm.findClass "java/lang/StringUTF16" = some m.cls := findClass_of_methodNamed Bd.named
  have hnm := (name_of_methodNamed Bd.named Bd.method).1
  have X0 : Stand p l e ({ frames := 2, cells := 1, slots := 66, locals := 32 } : Room) s m #[(.ref a1), (.int (0 : Int32)), (.int p3)] below meth c s₁ [] 0 0 := Stand.of_body Bd
  have e0 : s₁.heap = h0 := by rw [← hh, Bd.state]; rfl
  have N0 := Fr.nil n0
  show EndsQ p.tables e below s (fun v h L => Q18 Z a1 p3 cs fv k ch h0 n0 v h L) ({ frames := 2, cells := 1, slots := 66, locals := 32 } : Room).cells ({ frames := 2, cells := 1, slots := 66, locals := 32 } : Room).slots _
  refine EndsQ.go (b := s₁.setTop (mkF m 0 #[.val (.ref a1), .val (.int (0 : Int32)), .val (.int p3), .unset, .unset] [])) (fun t k => castTop (ef_18 m a1 (0 : Int32) p3) k) ?_
  obtain ⟨S_C, hcs, S_F, hfv, S_A, S_H, S_L⟩ := ST
  have K0 : Keep h0 h0 [] := Keep.refl _ _
  refine EndsQ.go (b := s₁.setTop (mkF m 1 #[.val (.ref a1), .val (.int (0 : Int32)), .val (.int p3), .unset, .unset] [(.int p3)])) (fun t k => ?_) ?_
  · show Steps p.tables e below (s₁.setTop (mkF m 0 #[.val (.ref a1), .val (.int (0 : Int32)), .val (.int p3), .unset, .unset] [])) _
    refine XS.iloadN X0.here hx rfl (hb hby d18_0) rfl ?_
    exact k
  obtain ⟨_, _, ⟨T101, L101, kk101, nn101⟩, -, X101, ⟨Lc101, hQ101, l101, y101, z101⟩, st101⟩ := Jvm.LawKit.callS X0 hx (y := (⟨"java/lang/StringUTF16", "newBytesFor", "(I)[B"⟩ : MethodName)) hown (mvT hZ (own_w hw 85 rfl)) (mvT hZ (own_w hw 86 rfl)) (mvT hZ (own_w hw 22 rfl)) (mvT hZ (own_w hw 87 rfl)) (by decide) (backOf (W := 0) (rm19 l Z a0 hw [] p3 h0 n0 Z0 g0 hM) hZ (own_w hw 87 rfl) (own_w hw 22 rfl) (by decide) (by decide)) (g := (mkF m 1 #[.val (.ref a1), .val (.int (0 : Int32)), .val (.int p3), .unset, .unset] [(.int p3)])) rfl (by rw [hml]; rfl) (argsL := [(.int p3)]) (rest := []) (lenOf pd_8 rfl) rfl (by show 2 * 0 + _ ≤ _; exact Nat.le_of_eq rfl) (hb hby d18_1) (fun _ _ => ⟨rfl, e0, (by decide : 0 + 1 ≤ _), (by decide : 0 + 66 ≤ _)⟩)
  dsimp only [Pt.U, Pt.locs, Pt.cells, Pt.slots] at X101 l101 y101 z101 st101 hQ101
  subst l101 y101 z101
  obtain ⟨b101, kb101, rfl, Nq101, K101, hb101, G101⟩ := hQ101
  have N101 := Fr.app N0 Nq101
  have gn101 : n0 ≤ b101 := Nat.le_trans Z0 hb101
  have gh101 : h0.size ≤ b101 := Nat.le_trans K0.1 hb101
  have ne101_a1 : a1 ≠ b101 := Nat.ne_of_lt (Nat.lt_of_lt_of_le G1.lt hb101)
  have f102 := G1.keep K101 nin0
  have f103 := Nat.le_trans Z0 K101.1
  have f104 := own_sta_keep0 S_C K101
  have f105 := own_sta_keep0 S_F K101
  have f106 := own_sta_keep0 S_A K101
  have f107 := own_sta_keep0 S_H K101
  have f108 := own_sta_keep0 S_L K101
  have f109 := K0.trans K101 all0
  refine EndsQ.go st101 ?_
  show EndsQ _ _ _ _ _ _ _ (T101.setTop (mkF m 4 #[.val (.ref a1), .val (.int (0 : Int32)), .val (.int p3), .unset, .unset] [(.ref b101)]))
  refine EndsQ.go (b := T101.setTop (mkF m 8 #[.val (.ref a1), .val (.int (0 : Int32)), .val (.int p3), .val (.ref b101), .val (.int (0 : Int32))] [])) (fun t k => ?_) ?_
  · show Steps p.tables e below (T101.setTop (mkF m 4 #[.val (.ref a1), .val (.int (0 : Int32)), .val (.int p3), .unset, .unset] [(.ref b101)])) _
    refine XS.astoreN X101.here hx rfl (hb hby d18_4) rfl rfl (l' := #[.val (.ref a1), .val (.int (0 : Int32)), .val (.int p3), .val (.ref b101), .unset]) rfl ?_
    refine XS.iconst X101.here hx rfl (hb hby d18_5) ?_
    refine XS.istore X101.here hx rfl (hb hby d18_6) rfl (l' := #[.val (.ref a1), .val (.int (0 : Int32)), .val (.int p3), .val (.ref b101), .val (.int (0 : Int32))]) rfl ?_
    show Steps p.tables e below (T101.setTop (mkF m 8 #[.val (.ref a1), .val (.int (0 : Int32)), .val (.int p3), .val (.ref b101), .val (.int (0 : Int32))] [])) _
    exact k
  have loop : ∀ (fu : Nat) (i : Int32) (f : Nat → Value) (T_ : State) (h_ : Heap) (lc_ : List Loc), Stand p l e ({ frames := 2, cells := 1, slots := 66, locals := 32 } : Room) s m #[(.ref a1), (.int (0 : Int32)), (.int p3)] below meth c T_ lc_ 1 66 → T_.heap = h_ → Fr n0 lc_ → ¬ i < (0 : Int32) → i.toInt + (fu : Nat) = p3.toInt → Keep h0 h_ [] → n0 ≤ h_.size → Arf Z h_ a1 k .char p3 (own_cv ch) → Arf Z h_ b101 kb101 .byte (own_dbl p3) f → (∀ j, j < 2 * i.toNatClampNeg → f j = own_b16 ch j) → own_St Z h_ cs fv →  EndsQ p.tables e below s (fun v h L => Q18 Z a1 p3 cs fv k ch h0 n0 v h L) ({ frames := 2, cells := 1, slots := 66, locals := 32 } : Room).cells ({ frames := 2, cells := 1, slots := 66, locals := 32 } : Room).slots (T_.setTop (mkF m 8 #[.val (.ref a1), .val (.int i), .val (.int p3), .val (.ref b101), .val (.int i)] [])) := by
    intro fu
    induction fu with
    | zero =>
      intro i f T_ h_ lc_ X_ e_ N_ hi hfu Kz Zz Gz1 Gz3 hf STz
      obtain ⟨S_C, hcs, S_F, hfv, S_A, S_H, S_L⟩ := STz
      refine EndsQ.go (b := T_.setTop (mkF m 33 #[.val (.ref a1), .val (.int i), .val (.int p3), .val (.ref b101), .val (.int i)] [(.ref b101)])) (fun t k => ?_) ?_
      · show Steps p.tables e below (T_.setTop (mkF m 8 #[.val (.ref a1), .val (.int i), .val (.int p3), .val (.ref b101), .val (.int i)] [])) _
        refine XS.iload X_.here hx rfl (hb hby d18_8) rfl ?_
        refine XS.iloadN X_.here hx rfl (hb hby d18_10) rfl ?_
        refine XS.icmpYes X_.here hx rfl (pc0 := 11) (pc' := 32) rfl (hb hby d18_11) rfl (flt (own_fuZ i p3 hfu)).2.1 (by decide) (by decide) ?_
        show Steps p.tables e below (T_.setTop (mkF m 32 #[.val (.ref a1), .val (.int i), .val (.int p3), .val (.ref b101), .val (.int i)] [])) _
        refine XS.aloadN X_.here hx rfl (hb hby d18_32) rfl rfl ?_
        exact k
      refine EndsQ.retA X_ hx Bd.notSynchronized (w := (.ref b101)) Bd.returns rfl rfl rfl (hb hby d18_33) (by decide) (by decide) ?_
      show Q18 Z a1 p3 cs fv k ch h0 n0 (some (.ref b101)) T_.heap _
      rw [e_]
      exact ⟨b101, kb101, rfl, N_, Kz, gh101, Gz3.congr (fun j hj => hf j (own_fin16 i p3 g0 (Int.lt_of_le_of_lt hM (by decide)) hfu j hj))⟩
    | succ fu ih_loop =>
      intro i f T_ h_ lc_ X_ e_ N_ hi hfu Kz Zz Gz1 Gz3 hf STz
      obtain ⟨S_C, hcs, S_F, hfv, S_A, S_H, S_L⟩ := STz
      refine EndsQ.go (b := T_.setTop (mkF m 19 #[.val (.ref a1), .val (.int i), .val (.int p3), .val (.ref b101), .val (.int i)] [(.int i), (.ref a1), (.int i), (.ref b101)])) (fun t k => ?_) ?_
      · show Steps p.tables e below (T_.setTop (mkF m 8 #[.val (.ref a1), .val (.int i), .val (.int p3), .val (.ref b101), .val (.int i)] [])) _
        refine XS.iload X_.here hx rfl (hb hby d18_8) rfl ?_
        show Steps p.tables e below (T_.setTop (mkF m 10 #[.val (.ref a1), .val (.int i), .val (.int p3), .val (.ref b101), .val (.int i)] [(.int i)])) _
        refine XS.iloadN X_.here hx rfl (hb hby d18_10) rfl ?_
        refine XS.icmpNo X_.here hx rfl (hb hby d18_11) rfl (tlt (own_fuL i p3 fu hfu)).2.1 ?_
        show Steps p.tables e below (T_.setTop (mkF m 14 #[.val (.ref a1), .val (.int i), .val (.int p3), .val (.ref b101), .val (.int i)] [])) _
        refine XS.aloadN X_.here hx rfl (hb hby d18_14) rfl rfl ?_
        refine XS.iload X_.here hx rfl (hb hby d18_15) rfl ?_
        refine XS.aloadN X_.here hx rfl (hb hby d18_17) rfl rfl ?_
        show Steps p.tables e below (T_.setTop (mkF m 18 #[.val (.ref a1), .val (.int i), .val (.int p3), .val (.ref b101), .val (.int i)] [(.ref a1), (.int i), (.ref b101)])) _
        refine XS.iloadN X_.here hx rfl (hb hby d18_18) rfl ?_
        exact k
      obtain ⟨cl110, Ar110, q110, S110, M110, H110, G110⟩ := id Gz1
      have hin110 : ¬ (i < 0 ∨ cl110.slots.size ≤ (i).toNatClampNeg) := inb_of S110 ⟨hi, own_fuL i p3 fu hfu⟩
      have hat110 : cl110.slots[(i).toNatClampNeg]? = some (.int (ch (i).toNatClampNeg)) := H110 _ (Nat.lt_of_not_le fun y => hin110 (Or.inr y))
      refine EndsQ.go (fun t k => X_.caload hx (j := i) (v := (.int (ch (i).toNatClampNeg))) (by rw [e_]; exact Ar110.1) (State.isArrayOf_alike hZ.alike Ar110.2.1) Ar110.2.2 hin110 hat110 (g := (mkF m 19 #[.val (.ref a1), .val (.int i), .val (.int p3), .val (.ref b101), .val (.int i)] [(.int i), (.ref a1), (.int i), (.ref b101)])) rfl rfl (hb hby d18_19) _ k) ?_
      show EndsQ _ _ _ _ _ _ _ (T_.setTop (mkF m 20 #[.val (.ref a1), .val (.int i), .val (.int p3), .val (.ref b101), .val (.int i)] [(.int (ch (i).toNatClampNeg)), (.int i), (.ref b101)]))
      obtain ⟨_, _, ⟨T111, L111, kk111, nn111⟩, -, X111, ⟨Lc111, hQ111, l111, y111, z111⟩, st111⟩ := Jvm.LawKit.callS X_ hx (y := (⟨"java/lang/StringUTF16", "putChar", "([BII)V"⟩ : MethodName)) hown (mvT hZ (own_w hw 92 rfl)) (mvT hZ (own_w hw 93 rfl)) (mvT hZ (own_w hw 22 rfl)) (mvT hZ (own_w hw 94 rfl)) (by decide) (backOf (W := 0) (rm21 l Z a0 hw [] b101 i (ch (i).toNatClampNeg) cs fv kb101 p3 f h_ n0 Zz ⟨S_C, hcs, S_F, hfv, S_A, S_H, S_L⟩ Gz3 hi (own_fuL i p3 fu hfu) (Int.lt_of_le_of_lt hM (by decide)) gn101) hZ (own_w hw 94 rfl) (own_w hw 22 rfl) (by decide) (by decide)) (g := (mkF m 20 #[.val (.ref a1), .val (.int i), .val (.int p3), .val (.ref b101), .val (.int i)] [(.int (ch (i).toNatClampNeg)), (.int i), (.ref b101)])) rfl (by rw [hml]; rfl) (argsL := [(.ref b101), (.int i), (.int (ch (i).toNatClampNeg))]) (rest := []) (lenOf pd_9 rfl) rfl (by show 2 * 0 + _ ≤ _; exact Nat.le_of_eq rfl) (hb hby d18_20) (fun _ _ => ⟨rfl, e_, (by decide : 1 + 0 ≤ _), (by decide : 66 + 0 ≤ _)⟩)
      dsimp only [Pt.U, Pt.locs, Pt.cells, Pt.slots] at X111 l111 y111 z111 st111 hQ111
      subst l111 y111 z111
      obtain ⟨rfl, Nq111, K111, G111⟩ := hQ111
      have N111 := Fr.app N_ Nq111
      have f112 := Kz.trans K111 (allS (Or.inr gh101) all0)
      have f113 := Nat.le_trans Zz K111.1
      have f114 := Gz1.keep K111 (ninS ne101_a1 nin0)
      have f115 := own_sta_keepG S_C K111 Gz3
      have f116 := own_sta_keepG S_F K111 Gz3
      have f117 := own_sta_keepG S_A K111 Gz3
      have f118 := own_sta_keepG S_H K111 Gz3
      have f119 := own_sta_keepG S_L K111 Gz3
      refine EndsQ.go st111 ?_
      show EndsQ _ _ _ _ _ _ _ (T111.setTop (mkF m 23 #[.val (.ref a1), .val (.int i), .val (.int p3), .val (.ref b101), .val (.int i)] []))
      refine EndsQ.go (b := T111.setTop (mkF m 8 #[.val (.ref a1), .val (.int (i + Int32.ofInt 1)), .val (.int p3), .val (.ref b101), .val (.int (i + Int32.ofInt 1))] [])) (fun t k => ?_) ?_
      · show Steps p.tables e below (T111.setTop (mkF m 23 #[.val (.ref a1), .val (.int i), .val (.int p3), .val (.ref b101), .val (.int i)] [])) _
        refine XS.iinc X111.here hx rfl (hb hby d18_23) rfl (l' := #[.val (.ref a1), .val (.int (i + Int32.ofInt 1)), .val (.int p3), .val (.ref b101), .val (.int i)]) rfl ?_
        refine XS.iinc X111.here hx rfl (hb hby d18_26) rfl (l' := #[.val (.ref a1), .val (.int (i + Int32.ofInt 1)), .val (.int p3), .val (.ref b101), .val (.int (i + Int32.ofInt 1))]) rfl ?_
        refine XS.goto X111.here hx rfl (pc0 := 29) (pc' := 8) rfl (hb hby d18_29) (by decide) (by decide) ?_
        show Steps p.tables e below (T111.setTop (mkF m 8 #[.val (.ref a1), .val (.int (i + Int32.ofInt 1)), .val (.int p3), .val (.ref b101), .val (.int (i + Int32.ofInt 1))] [])) _
        exact k
      exact ih_loop _ _ _ _ _ X111 rfl N111 (own_sucn i p3 hi (own_fuL i p3 fu hfu)) (own_fuS i p3 fu (own_fuL i p3 fu hfu) hfu) f112 f113 f114 G111 (own_step16 ch f i p3 hi (own_fuL i p3 fu hfu) (Int.lt_of_le_of_lt hM (by decide)) hf) ⟨f115, hcs, f116, hfv, f117, f118, f119⟩
  exact loop p3.toInt.toNat (0 : Int32) _ _ _ _ X101 rfl N101 (by decide) (own_fu0 p3 g0) f109 f103 f102 G101 own_none2 ⟨f104, hcs, f105, hfv, f106, f107, f108⟩
theorem ef_6 (m : MethodId) (x0 : Addr) (x1 : Int32) (x2 : Addr) (x3 : Int32) (x4 : Int32) : entryFrame m #[(.ref x0), (.int x1), (.ref x2), (.int x3), (.int x4)] 7 = mkF m 0 #[.val (.ref x0), .val (.int x1), .val (.ref x2), .val (.int x3), .val (.int x4), .unset, .unset] [] := by first | (simp [entryFrame, mkF, argsToLocals, Value.category]; done) | rfl
def Q6 (Z : State) (a1 : Addr) (a3 : Addr) (p5 : Int32) (k : ClassId) (kb : ClassId) (ch : Nat → Int32) (f0 : Nat → Value) (h0 : Heap) (n0 : Nat) (v : Option Value) (h : Heap) (L : List Loc) : Prop := ∃ (r : Int32) (f : Nat → Value), v = some (.int r) ∧ Fr n0 L ∧ Keep h0 h [a3] ∧ Arf Z h a3 kb .byte p5 f ∧ ((r = p5 ∧ ∀ j, j < p5.toNatClampNeg → f j = own_l1 ch j ∧ (ch j).toInt < 256) ∨ (¬ r < (0 : Int32) ∧ r < p5 ∧ 255 < (ch r.toNatClampNeg).toInt))
set_option maxRecDepth 65536 in
set_option maxHeartbeats 40000000 in
theorem rm6 (l : Launch) (Z : State) (a0 : Array Value) (hw : ∀ d ∈ tables_1, d.before a0 Z = true) (ws : List Jvm.Cond) (a1 : Addr) (a3 : Addr) (p5 : Int32) (k : ClassId) (kb : ClassId) (ch : Nat → Int32) (f0 : Nat → Value) (h0 : Heap) (n0 : Nat) (Z0 : n0 ≤ h0.size) (G1 : Arf Z h0 a1 k .char p5 (own_cv ch)) (G3 : Arf Z h0 a3 kb .byte p5 f0) (g0 : ¬ p5 < (0 : Int32)) (g2 : n0 ≤ a3) (hne : a1 ≠ a3) :
    MetFree l (⟨"java/lang/StringUTF16", "compress", "([CI[BII)I"⟩ : MethodName) (head1 (Jvm.Cond.code (⟨"java/lang/StringUTF16", "compress", "([CI[BII)I"⟩ : MethodName) jdk_52_method_21_code 7 (some .int) :: ws) ({ frames := 0, cells := 0, slots := 0, locals := 0 } : Room)) (fun a U => a = #[(.ref a1), (.int (0 : Int32)), (.ref a3), (.int (0 : Int32)), (.int p5)] ∧ Z.Warmed39 U.vm ∧ U.heap = h0) (fun _ _ _ _ _ => True) (fun _ U o U' => ∃ v L, o = .returned v ∧ Q6 Z a1 a3 p5 k kb ch f0 h0 n0 v U'.heap L ∧ FrameEnd U o U' L ({ frames := 0, cells := 0, slots := 0, locals := 0 } : Room).cells ({ frames := 0, cells := 0, slots := 0, locals := 0 } : Room).slots) := by
  refine MetFree.of_bodySF (plainFor_of_name pn_6) hisR ?_
  intro p e s m args below meth c s₁ Bd hml0 hP hK
  obtain ⟨rfl, hZ, hh⟩ := hP
  have hx := Bd.exec
  have hby := Bd.bytes
  have hml : c.maxLocals = 7 := hml0
  have hown : s.vm.findClass "java/lang/StringUTF16" = some m.cls := findClass_of_methodNamed Bd.named
  have hnm := (name_of_methodNamed Bd.named Bd.method).1
  have X0 : Stand p l e ({ frames := 0, cells := 0, slots := 0, locals := 0 } : Room) s m #[(.ref a1), (.int (0 : Int32)), (.ref a3), (.int (0 : Int32)), (.int p5)] below meth c s₁ [] 0 0 := Stand.of_body Bd
  have e0 : s₁.heap = h0 := by rw [← hh, Bd.state]; rfl
  have N0 := Fr.nil n0
  show EndsQ p.tables e below s (fun v h L => Q6 Z a1 a3 p5 k kb ch f0 h0 n0 v h L) ({ frames := 0, cells := 0, slots := 0, locals := 0 } : Room).cells ({ frames := 0, cells := 0, slots := 0, locals := 0 } : Room).slots _
  refine EndsQ.go (b := s₁.setTop (mkF m 0 #[.val (.ref a1), .val (.int (0 : Int32)), .val (.ref a3), .val (.int (0 : Int32)), .val (.int p5), .unset, .unset] [])) (fun t k => castTop (ef_6 m a1 (0 : Int32) a3 (0 : Int32) p5) k) ?_
  have K0 : Keep h0 h0 [a3] := Keep.refl _ _
  refine EndsQ.go (b := s₁.setTop (mkF m 3 #[.val (.ref a1), .val (.int (0 : Int32)), .val (.ref a3), .val (.int (0 : Int32)), .val (.int p5), .val (.int (0 : Int32)), .unset] [])) (fun t k => ?_) ?_
  · show Steps p.tables e below (s₁.setTop (mkF m 0 #[.val (.ref a1), .val (.int (0 : Int32)), .val (.ref a3), .val (.int (0 : Int32)), .val (.int p5), .unset, .unset] [])) _
    refine XS.iconst X0.here hx rfl (hb hby d6_0) ?_
    refine XS.istore X0.here hx rfl (hb hby d6_1) rfl (l' := #[.val (.ref a1), .val (.int (0 : Int32)), .val (.ref a3), .val (.int (0 : Int32)), .val (.int p5), .val (.int (0 : Int32)), .unset]) rfl ?_
    exact k
  have loop : ∀ (fu : Nat) (i : Int32) (f : Nat → Value) (sv : Slot) (T_ : State) (h_ : Heap) (lc_ : List Loc), Stand p l e ({ frames := 0, cells := 0, slots := 0, locals := 0 } : Room) s m #[(.ref a1), (.int (0 : Int32)), (.ref a3), (.int (0 : Int32)), (.int p5)] below meth c T_ lc_ 0 0 → T_.heap = h_ → Fr n0 lc_ → ¬ i < (0 : Int32) → i.toInt + (fu : Nat) = p5.toInt → Keep h0 h_ [a3] → n0 ≤ h_.size → Arf Z h_ a1 k .char p5 (own_cv ch) → Arf Z h_ a3 kb .byte p5 f → (∀ j, j < i.toNatClampNeg → f j = own_l1 ch j ∧ (ch j).toInt < 256) → own_one sv →  EndsQ p.tables e below s (fun v h L => Q6 Z a1 a3 p5 k kb ch f0 h0 n0 v h L) ({ frames := 0, cells := 0, slots := 0, locals := 0 } : Room).cells ({ frames := 0, cells := 0, slots := 0, locals := 0 } : Room).slots (T_.setTop (mkF m 3 #[.val (.ref a1), .val (.int i), .val (.ref a3), .val (.int i), .val (.int p5), .val (.int i), sv] [])) := by
    intro fu
    induction fu with
    | zero =>
      intro i f sv T_ h_ lc_ X_ e_ N_ hi hfu Kz Zz Gz1 Gz3 hf hs
      refine EndsQ.go (b := T_.setTop (mkF m 46 #[.val (.ref a1), .val (.int i), .val (.ref a3), .val (.int i), .val (.int p5), .val (.int i), sv] [(.int p5)])) (fun t k => ?_) ?_
      · show Steps p.tables e below (T_.setTop (mkF m 3 #[.val (.ref a1), .val (.int i), .val (.ref a3), .val (.int i), .val (.int p5), .val (.int i), sv] [])) _
        refine XS.iload X_.here hx rfl (hb hby d6_3) rfl ?_
        refine XS.iload X_.here hx rfl (hb hby d6_5) rfl ?_
        show Steps p.tables e below (T_.setTop (mkF m 7 #[.val (.ref a1), .val (.int i), .val (.ref a3), .val (.int i), .val (.int p5), .val (.int i), sv] [(.int p5), (.int i)])) _
        refine XS.icmpYes X_.here hx rfl (pc0 := 7) (pc' := 44) rfl (hb hby d6_7) rfl (flt (own_fuZ i p5 hfu)).2.1 (by decide) (by decide) ?_
        show Steps p.tables e below (T_.setTop (mkF m 44 #[.val (.ref a1), .val (.int i), .val (.ref a3), .val (.int i), .val (.int p5), .val (.int i), sv] [])) _
        refine XS.iload X_.here hx rfl (hb hby d6_44) rfl ?_
        exact k
      refine EndsQ.retI X_ hx Bd.notSynchronized Bd.returns (hb hby d6_46) (by decide) (by decide) ?_
      show Q6 Z a1 a3 p5 k kb ch f0 h0 n0 (some (.int p5)) T_.heap _
      rw [e_]
      exact ⟨_, f, rfl, N_, Kz, Gz3, Or.inl ⟨rfl, fun j hj => hf j (own_fin8 i p5 hfu j hj)⟩⟩
    | succ fu ih_loop =>
      intro i f sv T_ h_ lc_ X_ e_ N_ hi hfu Kz Zz Gz1 Gz3 hf hs
      refine EndsQ.go (b := T_.setTop (mkF m 12 #[.val (.ref a1), .val (.int i), .val (.ref a3), .val (.int i), .val (.int p5), .val (.int i), sv] [(.int i), (.ref a1)])) (fun t k => ?_) ?_
      · show Steps p.tables e below (T_.setTop (mkF m 3 #[.val (.ref a1), .val (.int i), .val (.ref a3), .val (.int i), .val (.int p5), .val (.int i), sv] [])) _
        refine XS.iload X_.here hx rfl (hb hby d6_3) rfl ?_
        refine XS.iload X_.here hx rfl (hb hby d6_5) rfl ?_
        refine XS.icmpNo X_.here hx rfl (hb hby d6_7) rfl (tlt (own_fuL i p5 fu hfu)).2.1 ?_
        show Steps p.tables e below (T_.setTop (mkF m 10 #[.val (.ref a1), .val (.int i), .val (.ref a3), .val (.int i), .val (.int p5), .val (.int i), sv] [])) _
        refine XS.aloadN X_.here hx rfl (hb hby d6_10) rfl rfl ?_
        show Steps p.tables e below (T_.setTop (mkF m 11 #[.val (.ref a1), .val (.int i), .val (.ref a3), .val (.int i), .val (.int p5), .val (.int i), sv] [(.ref a1)])) _
        refine XS.iloadN X_.here hx rfl (hb hby d6_11) rfl ?_
        exact k
      obtain ⟨cl101, Ar101, q101, S101, M101, H101, G101⟩ := id Gz1
      have hin101 : ¬ (i < 0 ∨ cl101.slots.size ≤ (i).toNatClampNeg) := inb_of S101 ⟨hi, own_fuL i p5 fu hfu⟩
      have hat101 : cl101.slots[(i).toNatClampNeg]? = some (.int (ch (i).toNatClampNeg)) := H101 _ (Nat.lt_of_not_le fun y => hin101 (Or.inr y))
      refine EndsQ.go (fun t k => X_.caload hx (j := i) (v := (.int (ch (i).toNatClampNeg))) (by rw [e_]; exact Ar101.1) (State.isArrayOf_alike hZ.alike Ar101.2.1) Ar101.2.2 hin101 hat101 (g := (mkF m 12 #[.val (.ref a1), .val (.int i), .val (.ref a3), .val (.int i), .val (.int p5), .val (.int i), sv] [(.int i), (.ref a1)])) rfl rfl (hb hby d6_12) _ k) ?_
      show EndsQ _ _ _ _ _ _ _ (T_.setTop (mkF m 13 #[.val (.ref a1), .val (.int i), .val (.ref a3), .val (.int i), .val (.int p5), .val (.int i), sv] [(.int (ch (i).toNatClampNeg))]))
      refine EndsQ.go (b := T_.setTop (mkF m 20 #[.val (.ref a1), .val (.int i), .val (.ref a3), .val (.int i), .val (.int p5), .val (.int i), .val (.int (ch (i).toNatClampNeg))] [(.int (255 : Int32)), (.int (ch (i).toNatClampNeg))])) (fun t k => ?_) ?_
      · show Steps p.tables e below (T_.setTop (mkF m 13 #[.val (.ref a1), .val (.int i), .val (.ref a3), .val (.int i), .val (.int p5), .val (.int i), sv] [(.int (ch (i).toNatClampNeg))])) _
        refine XS.istoreS X_.here hx rfl (hb hby d6_13) rfl rfl hs ?_
        refine XS.iload X_.here hx rfl (hb hby d6_15) rfl ?_
        refine XS.sipush X_.here hx rfl (hb hby d6_17) ?_
        show Steps p.tables e below (T_.setTop (mkF m 20 #[.val (.ref a1), .val (.int i), .val (.ref a3), .val (.int i), .val (.int p5), .val (.int i), .val (.int (ch (i).toNatClampNeg))] [(.int (255 : Int32)), (.int (ch (i).toNatClampNeg))])) _
        exact k
      by_cases hc20_102 : (255 : Int32) < (ch (i).toNatClampNeg)
      · refine EndsQ.go (b := T_.setTop (mkF m 23 #[.val (.ref a1), .val (.int i), .val (.ref a3), .val (.int i), .val (.int p5), .val (.int i), .val (.int (ch (i).toNatClampNeg))] [])) (fun t k => ?_) ?_
        · show Steps p.tables e below (T_.setTop (mkF m 20 #[.val (.ref a1), .val (.int i), .val (.ref a3), .val (.int i), .val (.int p5), .val (.int i), .val (.int (ch (i).toNatClampNeg))] [(.int (255 : Int32)), (.int (ch (i).toNatClampNeg))])) _
          refine XS.icmpNo X_.here hx rfl (hb hby d6_20) rfl (tlt hc20_102).2.2.2 ?_
          show Steps p.tables e below (T_.setTop (mkF m 23 #[.val (.ref a1), .val (.int i), .val (.ref a3), .val (.int i), .val (.int p5), .val (.int i), .val (.int (ch (i).toNatClampNeg))] [])) _
          exact k
        refine EndsQ.go (b := T_.setTop (mkF m 25 #[.val (.ref a1), .val (.int i), .val (.ref a3), .val (.int i), .val (.int p5), .val (.int i), .val (.int (ch (i).toNatClampNeg))] [(.int i)])) (fun t k => ?_) ?_
        · show Steps p.tables e below (T_.setTop (mkF m 23 #[.val (.ref a1), .val (.int i), .val (.ref a3), .val (.int i), .val (.int p5), .val (.int i), .val (.int (ch (i).toNatClampNeg))] [])) _
          refine XS.iload X_.here hx rfl (hb hby d6_23) rfl ?_
          exact k
        refine EndsQ.retI X_ hx Bd.notSynchronized Bd.returns (hb hby d6_25) (by decide) (by decide) ?_
        show Q6 Z a1 a3 p5 k kb ch f0 h0 n0 (some (.int i)) T_.heap _
        rw [e_]
        exact ⟨_, f, rfl, N_, Kz, Gz3, Or.inr ⟨hi, own_fuL i p5 fu hfu, own_gt255' _ hc20_102⟩⟩
      · refine EndsQ.go (b := T_.setTop (mkF m 26 #[.val (.ref a1), .val (.int i), .val (.ref a3), .val (.int i), .val (.int p5), .val (.int i), .val (.int (ch (i).toNatClampNeg))] [])) (fun t k => ?_) ?_
        · show Steps p.tables e below (T_.setTop (mkF m 20 #[.val (.ref a1), .val (.int i), .val (.ref a3), .val (.int i), .val (.int p5), .val (.int i), .val (.int (ch (i).toNatClampNeg))] [(.int (255 : Int32)), (.int (ch (i).toNatClampNeg))])) _
          refine XS.icmpYes X_.here hx rfl (pc0 := 20) (pc' := 26) rfl (hb hby d6_20) rfl (flt hc20_102).2.2.2 (by decide) (by decide) ?_
          show Steps p.tables e below (T_.setTop (mkF m 26 #[.val (.ref a1), .val (.int i), .val (.ref a3), .val (.int i), .val (.int p5), .val (.int i), .val (.int (ch (i).toNatClampNeg))] [])) _
          exact k
        refine EndsQ.go (b := T_.setTop (mkF m 31 #[.val (.ref a1), .val (.int i), .val (.ref a3), .val (.int i), .val (.int p5), .val (.int i), .val (.int (ch (i).toNatClampNeg))] [(.int ((ch (i).toNatClampNeg).toInt8.toInt32)), (.int i), (.ref a3)])) (fun t k => ?_) ?_
        · show Steps p.tables e below (T_.setTop (mkF m 26 #[.val (.ref a1), .val (.int i), .val (.ref a3), .val (.int i), .val (.int p5), .val (.int i), .val (.int (ch (i).toNatClampNeg))] [])) _
          refine XS.aloadN X_.here hx rfl (hb hby d6_26) rfl rfl ?_
          refine XS.iloadN X_.here hx rfl (hb hby d6_27) rfl ?_
          refine XS.iload X_.here hx rfl (hb hby d6_28) rfl ?_
          show Steps p.tables e below (T_.setTop (mkF m 30 #[.val (.ref a1), .val (.int i), .val (.ref a3), .val (.int i), .val (.int p5), .val (.int i), .val (.int (ch (i).toNatClampNeg))] [(.int (ch (i).toNatClampNeg)), (.int i), (.ref a3)])) _
          refine XS.i2b X_.here hx rfl (hb hby d6_30) rfl ?_
          exact k
        obtain ⟨cl103, Ar103, q103, S103, M103, H103, G103⟩ := id Gz3
        have hin103 : ¬ (i < 0 ∨ cl103.slots.size ≤ (i).toNatClampNeg) := inb_of S103 ⟨hi, own_fuL i p5 fu hfu⟩
        obtain ⟨T103, h103, X103, e103, W103, st103⟩ := stB X_ hx hZ e_ Ar103 (j := i) hin103 (g := (mkF m 31 #[.val (.ref a1), .val (.int i), .val (.ref a3), .val (.int i), .val (.int p5), .val (.int i), .val (.int (ch (i).toNatClampNeg))] [(.int ((ch (i).toNatClampNeg).toInt8.toInt32)), (.int i), (.ref a3)])) rfl rfl (hb hby d6_31)
        have fa103 := Arf.set (v := .int (nar .byte ((ch (i).toNatClampNeg).toInt8.toInt32))) Ar103 q103 S103 M103 H103 G103 (fits_nar_byte ((ch (i).toNatClampNeg).toInt8.toInt32)) W103
        have f104 := Kz.wr W103 (Or.inl (List.mem_of_getElem? (i := 0) rfl))
        have f105 := Nat.le_trans Zz (Keep.of_wr W103).1
        have f106 := Gz1.other W103 hne
        have N103 := Fr.snoc X103 N_ g2
        refine EndsQ.go st103 ?_
        show EndsQ _ _ _ _ _ _ _ (T103.setTop (mkF m 32 #[.val (.ref a1), .val (.int i), .val (.ref a3), .val (.int i), .val (.int p5), .val (.int i), .val (.int (ch (i).toNatClampNeg))] []))
        refine EndsQ.go (b := T103.setTop (mkF m 3 #[.val (.ref a1), .val (.int (i + Int32.ofInt 1)), .val (.ref a3), .val (.int (i + Int32.ofInt 1)), .val (.int p5), .val (.int (i + Int32.ofInt 1)), .val (.int (ch (i).toNatClampNeg))] [])) (fun t k => ?_) ?_
        · show Steps p.tables e below (T103.setTop (mkF m 32 #[.val (.ref a1), .val (.int i), .val (.ref a3), .val (.int i), .val (.int p5), .val (.int i), .val (.int (ch (i).toNatClampNeg))] [])) _
          refine XS.iinc X103.here hx rfl (hb hby d6_32) rfl (l' := #[.val (.ref a1), .val (.int (i + Int32.ofInt 1)), .val (.ref a3), .val (.int i), .val (.int p5), .val (.int i), .val (.int (ch (i).toNatClampNeg))]) rfl ?_
          refine XS.iinc X103.here hx rfl (hb hby d6_35) rfl (l' := #[.val (.ref a1), .val (.int (i + Int32.ofInt 1)), .val (.ref a3), .val (.int (i + Int32.ofInt 1)), .val (.int p5), .val (.int i), .val (.int (ch (i).toNatClampNeg))]) rfl ?_
          refine XS.iinc X103.here hx rfl (hb hby d6_38) rfl (l' := #[.val (.ref a1), .val (.int (i + Int32.ofInt 1)), .val (.ref a3), .val (.int (i + Int32.ofInt 1)), .val (.int p5), .val (.int (i + Int32.ofInt 1)), .val (.int (ch (i).toNatClampNeg))]) rfl ?_
          show Steps p.tables e below (T103.setTop (mkF m 41 #[.val (.ref a1), .val (.int (i + Int32.ofInt 1)), .val (.ref a3), .val (.int (i + Int32.ofInt 1)), .val (.int p5), .val (.int (i + Int32.ofInt 1)), .val (.int (ch (i).toNatClampNeg))] [])) _
          refine XS.goto X103.here hx rfl (pc0 := 41) (pc' := 3) rfl (hb hby d6_41) (by decide) (by decide) ?_
          exact k
        have q := fa103
        rw [show nar .byte ((ch (i).toNatClampNeg).toInt8.toInt32) = own_lo (ch (i).toNatClampNeg) from own_bb (ch (i).toNatClampNeg)] at q
        exact ih_loop _ _ _ _ _ _ X103 e103 N103 (own_sucn i p5 hi (own_fuL i p5 fu hfu)) (own_fuS i p5 fu (own_fuL i p5 fu hfu) hfu) f104 f105 f106 q (own_step8 ch f i p5 hi (own_fuL i p5 fu hfu) (own_le255 _ hc20_102) hf) (Or.inr ⟨_, rfl, rfl⟩)
  exact loop p5.toInt.toNat (0 : Int32) _ _ _ _ _ X0 e0 N0 (by decide) (own_fu0 p5 g0) K0 Z0 G1 G3 own_none1 (Or.inl rfl)
theorem ef_5 (m : MethodId) (x0 : Addr) (x1 : Int32) (x2 : Int32) : entryFrame m #[(.ref x0), (.int x1), (.int x2)] 6 = mkF m 0 #[.val (.ref x0), .val (.int x1), .val (.int x2), .unset, .unset, .unset] [] := by first | (simp [entryFrame, mkF, argsToLocals, Value.category]; done) | rfl
def Q5 (Z : State) (a1 : Addr) (p3 : Int32) (cs : Int32) (fv : Value) (k : ClassId) (ch : Nat → Int32) (h0 : Heap) (n0 : Nat) (v : Option Value) (h : Heap) (L : List Loc) : Prop := ∃ (b : Addr) (kb : ClassId), v = some (.ref b) ∧ Fr n0 L ∧ Keep h0 h [] ∧ h0.size ≤ b ∧ ((Arf Z h b kb .byte p3 (own_l1 ch) ∧ ∀ j, j < p3.toNatClampNeg → (ch j).toInt < 256) ∨ Arf Z h b kb .byte (own_dbl p3) (own_b16 ch))
set_option maxRecDepth 65536 in
set_option maxHeartbeats 40000000 in
theorem rm5 (l : Launch) (Z : State) (a0 : Array Value) (hw : ∀ d ∈ tables_1, d.before a0 Z = true) (ws : List Jvm.Cond) (a1 : Addr) (p3 : Int32) (cs : Int32) (fv : Value) (k : ClassId) (ch : Nat → Int32) (h0 : Heap) (n0 : Nat) (Z0 : n0 ≤ h0.size) (ST : own_St Z h0 cs fv) (G1 : Arf Z h0 a1 k .char p3 (own_cv ch)) (g0 : ¬ p3 < (0 : Int32)) (hM : p3.toInt ≤ (33 : Nat)) (hc : own_c16 ch) :
    MetFree l (⟨"java/lang/StringUTF16", "compress", "([CII)[B"⟩ : MethodName) (head1 (Jvm.Cond.code (⟨"java/lang/StringUTF16", "compress", "([CII)[B"⟩ : MethodName) jdk_52_method_16_code 6 (some (.array .byte)) :: ws) ({ frames := 3, cells := 2, slots := 99, locals := 48 } : Room)) (fun a U => a = #[(.ref a1), (.int (0 : Int32)), (.int p3)] ∧ Z.Warmed39 U.vm ∧ U.heap = h0) (fun _ _ _ _ _ => True) (fun _ U o U' => ∃ v L, o = .returned v ∧ Q5 Z a1 p3 cs fv k ch h0 n0 v U'.heap L ∧ FrameEnd U o U' L ({ frames := 3, cells := 2, slots := 99, locals := 48 } : Room).cells ({ frames := 3, cells := 2, slots := 99, locals := 48 } : Room).slots) := by
  refine MetFree.of_bodySF (plainFor_of_name pn_5) hisR ?_
  intro p e s m args below meth c s₁ Bd hml0 hP hK
  obtain ⟨rfl, hZ, hh⟩ := hP
  have hx := Bd.exec
  have hby := Bd.bytes
  have hml : c.maxLocals = 6 := hml0
  have hown : s.vm.findClass "java/lang/StringUTF16" = some m.cls := findClass_of_methodNamed Bd.named
  have hnm := (name_of_methodNamed Bd.named Bd.method).1
  have X0 : Stand p l e ({ frames := 3, cells := 2, slots := 99, locals := 48 } : Room) s m #[(.ref a1), (.int (0 : Int32)), (.int p3)] below meth c s₁ [] 0 0 := Stand.of_body Bd
  have e0 : s₁.heap = h0 := by rw [← hh, Bd.state]; rfl
  have N0 := Fr.nil n0
  show EndsQ p.tables e below s (fun v h L => Q5 Z a1 p3 cs fv k ch h0 n0 v h L) ({ frames := 3, cells := 2, slots := 99, locals := 48 } : Room).cells ({ frames := 3, cells := 2, slots := 99, locals := 48 } : Room).slots _
  refine EndsQ.go (b := s₁.setTop (mkF m 0 #[.val (.ref a1), .val (.int (0 : Int32)), .val (.int p3), .unset, .unset, .unset] [])) (fun t k => castTop (ef_5 m a1 (0 : Int32) p3) k) ?_
  obtain ⟨S_C, hcs, S_F, hfv, S_A, S_H, S_L⟩ := ST
  have K0 : Keep h0 h0 [] := Keep.refl _ _
  refine EndsQ.go (b := s₁.setTop (mkF m 1 #[.val (.ref a1), .val (.int (0 : Int32)), .val (.int p3), .unset, .unset, .unset] [(.int p3)])) (fun t k => ?_) ?_
  · show Steps p.tables e below (s₁.setTop (mkF m 0 #[.val (.ref a1), .val (.int (0 : Int32)), .val (.int p3), .unset, .unset, .unset] [])) _
    refine XS.iloadN X0.here hx rfl (hb hby d5_0) rfl ?_
    exact k
  obtain ⟨T101, h101, k101, X101, e101, E101, A101, st101⟩ := newP X0 hx hZ (own_w hw 24 rfl) e0 (g := (mkF m 1 #[.val (.ref a1), .val (.int (0 : Int32)), .val (.int p3), .unset, .unset, .unset] [(.int p3)])) rfl (hb hby d5_1) rfl g0 (cap := 33) (own_ncap p3 33 hM) (by decide) (by decide) (by decide)
  obtain ⟨b101, g101⟩ : ∃ z, z = h0.size := ⟨_, rfl⟩
  rw [← g101] at A101 st101
  have gn101 : n0 ≤ b101 := Nat.le_trans Z0 (Nat.le_of_eq g101.symm)
  have gh101 : h0.size ≤ b101 := Nat.le_trans K0.1 (Nat.le_of_eq g101.symm)
  have ne101_a1 : a1 ≠ b101 := Nat.ne_of_lt (Nat.lt_of_lt_of_le G1.lt (Nat.le_of_eq g101.symm))
  have f102 := G1.ext E101
  have f103 := Nat.le_trans Z0 E101.1
  have f104 := S_C.ext E101
  have f105 := S_F.ext E101
  have f106 := S_A.ext E101
  have f107 := S_H.ext E101
  have f108 := S_L.ext E101
  have f109 := K0.ext E101
  have f110 : Arf Z h101 b101 k101 .byte p3 (fun _ => .int (0 : Int32)) := Arf.new A101 g0
  refine EndsQ.go st101 ?_
  show EndsQ _ _ _ _ _ _ _ (T101.setTop (mkF m 3 #[.val (.ref a1), .val (.int (0 : Int32)), .val (.int p3), .unset, .unset, .unset] [(.ref b101)]))
  refine EndsQ.go (b := T101.setTop (mkF m 9 #[.val (.ref a1), .val (.int (0 : Int32)), .val (.int p3), .val (.ref b101), .unset, .unset] [(.int p3), (.int (0 : Int32)), (.ref b101), (.int (0 : Int32)), (.ref a1)])) (fun t k => ?_) ?_
  · show Steps p.tables e below (T101.setTop (mkF m 3 #[.val (.ref a1), .val (.int (0 : Int32)), .val (.int p3), .unset, .unset, .unset] [(.ref b101)])) _
    refine XS.astoreN X101.here hx rfl (hb hby d5_3) rfl rfl (l' := #[.val (.ref a1), .val (.int (0 : Int32)), .val (.int p3), .val (.ref b101), .unset, .unset]) rfl ?_
    refine XS.aloadN X101.here hx rfl (hb hby d5_4) rfl rfl ?_
    refine XS.iloadN X101.here hx rfl (hb hby d5_5) rfl ?_
    show Steps p.tables e below (T101.setTop (mkF m 6 #[.val (.ref a1), .val (.int (0 : Int32)), .val (.int p3), .val (.ref b101), .unset, .unset] [(.int (0 : Int32)), (.ref a1)])) _
    refine XS.aloadN X101.here hx rfl (hb hby d5_6) rfl rfl ?_
    refine XS.iconst X101.here hx rfl (hb hby d5_7) ?_
    refine XS.iloadN X101.here hx rfl (hb hby d5_8) rfl ?_
    exact k
  obtain ⟨_, _, ⟨T111, L111, kk111, nn111⟩, -, X111, ⟨Lc111, hQ111, l111, y111, z111⟩, st111⟩ := Jvm.LawKit.callS X101 hx (y := (⟨"java/lang/StringUTF16", "compress", "([CI[BII)I"⟩ : MethodName)) hown (mvT hZ (own_w hw 25 rfl)) (mvT hZ (own_w hw 26 rfl)) (mvT hZ (own_w hw 22 rfl)) (mvT hZ (own_w hw 27 rfl)) (by decide) (backOf (W := 0) (rm6 l Z a0 hw [] a1 b101 p3 k k101 ch (fun _ => .int (0 : Int32)) h101 n0 f103 f102 f110 g0 gn101 ne101_a1) hZ (own_w hw 27 rfl) (own_w hw 22 rfl) (by decide) (by decide)) (g := (mkF m 9 #[.val (.ref a1), .val (.int (0 : Int32)), .val (.int p3), .val (.ref b101), .unset, .unset] [(.int p3), (.int (0 : Int32)), (.ref b101), (.int (0 : Int32)), (.ref a1)])) rfl (by rw [hml]; rfl) (argsL := [(.ref a1), (.int (0 : Int32)), (.ref b101), (.int (0 : Int32)), (.int p3)]) (rest := []) (lenOf pd_10 rfl) rfl (by show 2 * 0 + _ ≤ _; exact Nat.le_of_eq rfl) (hb hby d5_9) (fun _ _ => ⟨rfl, e101, (by decide : 1 + 0 ≤ _), (by decide : 33 + 0 ≤ _)⟩)
  dsimp only [Pt.U, Pt.locs, Pt.cells, Pt.slots] at X111 l111 y111 z111 st111 hQ111
  subst l111 y111 z111
  obtain ⟨r111, f111, rfl, Nq111, K111, G111, hor⟩ := hQ111
  have N111 := Fr.app N0 Nq111
  have f112 := f102.keep K111 (ninS ne101_a1 nin0)
  have f113 := Nat.le_trans f103 K111.1
  have f114 := own_sta_keepG f104 K111 f110
  have f115 := own_sta_keepG f105 K111 f110
  have f116 := own_sta_keepG f106 K111 f110
  have f117 := own_sta_keepG f107 K111 f110
  have f118 := own_sta_keepG f108 K111 f110
  have f119 := f109.trans K111 (allS (Or.inr gh101) all0)
  refine EndsQ.go st111 ?_
  show EndsQ _ _ _ _ _ _ _ (T111.setTop (mkF m 12 #[.val (.ref a1), .val (.int (0 : Int32)), .val (.int p3), .val (.ref b101), .unset, .unset] [(.int r111)]))
  refine EndsQ.go (b := T111.setTop (mkF m 14 #[.val (.ref a1), .val (.int (0 : Int32)), .val (.int p3), .val (.ref b101), .val (.int r111), .unset] [])) (fun t k => ?_) ?_
  · show Steps p.tables e below (T111.setTop (mkF m 12 #[.val (.ref a1), .val (.int (0 : Int32)), .val (.int p3), .val (.ref b101), .unset, .unset] [(.int r111)])) _
    refine XS.istore X111.here hx rfl (hb hby d5_12) rfl (l' := #[.val (.ref a1), .val (.int (0 : Int32)), .val (.int p3), .val (.ref b101), .val (.int r111), .unset]) rfl ?_
    show Steps p.tables e below (T111.setTop (mkF m 14 #[.val (.ref a1), .val (.int (0 : Int32)), .val (.int p3), .val (.ref b101), .val (.int r111), .unset] [])) _
    exact k
  rcases hor with hor | hor
  · obtain ⟨hr, hf⟩ := hor
    refine EndsQ.go (b := T111.setTop (mkF m 58 #[.val (.ref a1), .val (.int (0 : Int32)), .val (.int p3), .val (.ref b101), .val (.int r111), .unset] [(.ref b101)])) (fun t k => ?_) ?_
    · show Steps p.tables e below (T111.setTop (mkF m 14 #[.val (.ref a1), .val (.int (0 : Int32)), .val (.int p3), .val (.ref b101), .val (.int r111), .unset] [])) _
      refine XS.iload X111.here hx rfl (hb hby d5_14) rfl ?_
      refine XS.iloadN X111.here hx rfl (hb hby d5_16) rfl ?_
      refine XS.icmpYes X111.here hx rfl (pc0 := 17) (pc' := 57) rfl (hb hby d5_17) rfl (teq hr).1 (by decide) (by decide) ?_
      show Steps p.tables e below (T111.setTop (mkF m 57 #[.val (.ref a1), .val (.int (0 : Int32)), .val (.int p3), .val (.ref b101), .val (.int r111), .unset] [])) _
      refine XS.aloadN X111.here hx rfl (hb hby d5_57) rfl rfl ?_
      exact k
    refine EndsQ.retA X111 hx Bd.notSynchronized (w := (.ref b101)) Bd.returns rfl rfl rfl (hb hby d5_58) (by decide) (by decide) ?_
    show Q5 Z a1 p3 cs fv k ch h0 n0 (some (.ref b101)) T111.heap _
    exact ⟨b101, k101, rfl, N111, f119, gh101, Or.inl ⟨G111.congr (fun j hj => (hf j hj).1), fun j hj => (hf j hj).2⟩⟩
  · obtain ⟨hr0, hr1, hr2⟩ := hor
    refine EndsQ.go (b := T111.setTop (mkF m 23 #[.val (.ref a1), .val (.int (0 : Int32)), .val (.int p3), .val (.ref b101), .val (.int r111), .unset] [(.int p3), (.int (0 : Int32)), (.ref a1)])) (fun t k => ?_) ?_
    · show Steps p.tables e below (T111.setTop (mkF m 14 #[.val (.ref a1), .val (.int (0 : Int32)), .val (.int p3), .val (.ref b101), .val (.int r111), .unset] [])) _
      refine XS.iload X111.here hx rfl (hb hby d5_14) rfl ?_
      show Steps p.tables e below (T111.setTop (mkF m 16 #[.val (.ref a1), .val (.int (0 : Int32)), .val (.int p3), .val (.ref b101), .val (.int r111), .unset] [(.int r111)])) _
      refine XS.iloadN X111.here hx rfl (hb hby d5_16) rfl ?_
      refine XS.icmpNo X111.here hx rfl (hb hby d5_17) rfl (feq (own_ltne _ _ hr1)).1 ?_
      show Steps p.tables e below (T111.setTop (mkF m 20 #[.val (.ref a1), .val (.int (0 : Int32)), .val (.int p3), .val (.ref b101), .val (.int r111), .unset] [])) _
      refine XS.aloadN X111.here hx rfl (hb hby d5_20) rfl rfl ?_
      refine XS.iloadN X111.here hx rfl (hb hby d5_21) rfl ?_
      refine XS.iloadN X111.here hx rfl (hb hby d5_22) rfl ?_
      show Steps p.tables e below (T111.setTop (mkF m 23 #[.val (.ref a1), .val (.int (0 : Int32)), .val (.int p3), .val (.ref b101), .val (.int r111), .unset] [(.int p3), (.int (0 : Int32)), (.ref a1)])) _
      exact k
    obtain ⟨_, _, ⟨T120, L120, kk120, nn120⟩, -, X120, ⟨Lc120, hQ120, l120, y120, z120⟩, st120⟩ := Jvm.LawKit.callS X111 hx (y := (⟨"java/lang/StringUTF16", "toBytes", "([CII)[B"⟩ : MethodName)) hown (mvT hZ (own_w hw 82 rfl)) (mvT hZ (own_w hw 83 rfl)) (mvT hZ (own_w hw 22 rfl)) (mvT hZ (own_w hw 84 rfl)) (by decide) (backOf (W := 0) (rm18 l Z a0 hw [] a1 p3 cs fv k ch T111.heap n0 f113 ⟨f114, hcs, f115, hfv, f116, f117, f118⟩ f112 g0 hM) hZ (own_w hw 84 rfl) (own_w hw 22 rfl) (by decide) (by decide)) (g := (mkF m 23 #[.val (.ref a1), .val (.int (0 : Int32)), .val (.int p3), .val (.ref b101), .val (.int r111), .unset] [(.int p3), (.int (0 : Int32)), (.ref a1)])) rfl (by rw [hml]; rfl) (argsL := [(.ref a1), (.int (0 : Int32)), (.int p3)]) (rest := []) (lenOf pd_11 rfl) rfl (by show 2 * 0 + _ ≤ _; exact Nat.le_of_eq rfl) (hb hby d5_23) (fun _ _ => ⟨rfl, rfl, (by decide : 1 + 1 ≤ _), (by decide : 33 + 66 ≤ _)⟩)
    dsimp only [Pt.U, Pt.locs, Pt.cells, Pt.slots] at X120 l120 y120 z120 st120 hQ120
    subst l120 y120 z120
    obtain ⟨b120, kb120, rfl, Nq120, K120, hb120, G120⟩ := hQ120
    have N120 := Fr.app N111 Nq120
    have gn120 : n0 ≤ b120 := Nat.le_trans f113 hb120
    have gh120 : h0.size ≤ b120 := Nat.le_trans f119.1 hb120
    have ne120_a1 : a1 ≠ b120 := Nat.ne_of_lt (Nat.lt_of_lt_of_le f112.lt hb120)
    have ne120_b101 : b101 ≠ b120 := Nat.ne_of_lt (Nat.lt_of_lt_of_le G111.lt hb120)
    have f121 := f112.keep K120 nin0
    have f122 := Nat.le_trans f113 K120.1
    have f123 := own_sta_keep0 f114 K120
    have f124 := own_sta_keep0 f115 K120
    have f125 := own_sta_keep0 f116 K120
    have f126 := own_sta_keep0 f117 K120
    have f127 := own_sta_keep0 f118 K120
    have f128 := f119.trans K120 all0
    have f129 := G111.keep K120 nin0
    refine EndsQ.go st120 ?_
    show EndsQ _ _ _ _ _ _ _ (T120.setTop (mkF m 26 #[.val (.ref a1), .val (.int (0 : Int32)), .val (.int p3), .val (.ref b101), .val (.int r111), .unset] [(.ref b120)]))
    refine EndsQ.go (b := T120.setTop (mkF m 32 #[.val (.ref a1), .val (.int (0 : Int32)), .val (.int p3), .val (.ref b101), .val (.int r111), .val (.ref b120)] [(.int r111), (.ref b120)])) (fun t k => ?_) ?_
    · show Steps p.tables e below (T120.setTop (mkF m 26 #[.val (.ref a1), .val (.int (0 : Int32)), .val (.int p3), .val (.ref b101), .val (.int r111), .unset] [(.ref b120)])) _
      refine XS.astore X120.here hx rfl (hb hby d5_26) rfl rfl (l' := #[.val (.ref a1), .val (.int (0 : Int32)), .val (.int p3), .val (.ref b101), .val (.int r111), .val (.ref b120)]) rfl ?_
      refine XS.aload X120.here hx rfl (hb hby d5_28) rfl rfl ?_
      refine XS.iload X120.here hx rfl (hb hby d5_30) rfl ?_
      exact k
    obtain ⟨_, _, ⟨T130, L130, kk130, nn130⟩, -, X130, ⟨Lc130, hQ130, l130, y130, z130⟩, st130⟩ := Jvm.LawKit.callS X120 hx (y := (⟨"java/lang/StringUTF16", "getChar", "([BI)C"⟩ : MethodName)) hown (mvT hZ (own_w hw 98 rfl)) (mvT hZ (own_w hw 99 rfl)) (mvT hZ (own_w hw 22 rfl)) (mvT hZ (own_w hw 100 rfl)) (by decide) (backOf (W := 0) (rm22 l Z a0 hw [] b120 r111 cs fv kb120 p3 ch T120.heap n0 f122 ⟨f123, hcs, f124, hfv, f125, f126, f127⟩ G120 hr0 hr1 (Int.lt_of_le_of_lt hM (by decide)) hc) hZ (own_w hw 100 rfl) (own_w hw 22 rfl) (by decide) (by decide)) (g := (mkF m 32 #[.val (.ref a1), .val (.int (0 : Int32)), .val (.int p3), .val (.ref b101), .val (.int r111), .val (.ref b120)] [(.int r111), (.ref b120)])) rfl (by rw [hml]; rfl) (argsL := [(.ref b120), (.int r111)]) (rest := []) (lenOf pd_5 rfl) rfl (by show 2 * 0 + _ ≤ _; exact Nat.le_of_eq rfl) (hb hby d5_32) (fun _ _ => ⟨rfl, rfl, (by decide : 2 + 0 ≤ _), (by decide : 99 + 0 ≤ _)⟩)
    dsimp only [Pt.U, Pt.locs, Pt.cells, Pt.slots] at X130 l130 y130 z130 st130 hQ130
    subst l130 y130 z130
    obtain ⟨rfl, Nq130, eq130⟩ := hQ130
    have N130 := Fr.app N120 Nq130
    refine EndsQ.go st130 ?_
    show EndsQ _ _ _ _ _ _ _ (T130.setTop (mkF m 35 #[.val (.ref a1), .val (.int (0 : Int32)), .val (.int p3), .val (.ref b101), .val (.int r111), .val (.ref b120)] [(.int (ch (r111).toNatClampNeg))]))
    refine EndsQ.go (b := T130.setTop (mkF m 56 #[.val (.ref a1), .val (.int (0 : Int32)), .val (.int p3), .val (.ref b101), .val (.int r111), .val (.ref b120)] [(.ref b120)])) (fun t k => ?_) ?_
    · show Steps p.tables e below (T130.setTop (mkF m 35 #[.val (.ref a1), .val (.int (0 : Int32)), .val (.int p3), .val (.ref b101), .val (.int r111), .val (.ref b120)] [(.int (ch (r111).toNatClampNeg))])) _
      refine XS.sipush X130.here hx rfl (hb hby d5_35) ?_
      show Steps p.tables e below (T130.setTop (mkF m 38 #[.val (.ref a1), .val (.int (0 : Int32)), .val (.int p3), .val (.ref b101), .val (.int r111), .val (.ref b120)] [(.int (255 : Int32)), (.int (ch (r111).toNatClampNeg))])) _
      refine XS.icmpYes X130.here hx rfl (pc0 := 38) (pc' := 54) rfl (hb hby d5_38) rfl (tlt (own_gt255 _ hr2)).2.2.1 (by decide) (by decide) ?_
      show Steps p.tables e below (T130.setTop (mkF m 54 #[.val (.ref a1), .val (.int (0 : Int32)), .val (.int p3), .val (.ref b101), .val (.int r111), .val (.ref b120)] [])) _
      refine XS.aload X130.here hx rfl (hb hby d5_54) rfl rfl ?_
      exact k
    refine EndsQ.retA X130 hx Bd.notSynchronized (w := (.ref b120)) Bd.returns rfl rfl rfl (hb hby d5_56) (by decide) (by decide) ?_
    show Q5 Z a1 p3 cs fv k ch h0 n0 (some (.ref b120)) T130.heap _
    rw [eq130]
    exact ⟨b120, kb120, rfl, N130, f128, gh120, Or.inr G120⟩
theorem ef_7 (m : MethodId) (x0 : Addr) (x1 : Int32) : entryFrame m #[(.ref x0), (.int x1)] 2 = mkF m 0 #[.val (.ref x0), .val (.int x1)] [] := by first | (simp [entryFrame, mkF, argsToLocals, Value.category]; done) | rfl
def Q7 (Z : State) (a1 : Addr) (p2 : Int32) (k : ClassId) (n : Int32) (f : Nat → Value) (d : Int32) (h0 : Heap) (n0 : Nat) (v : Option Value) (h : Heap) (L : List Loc) : Prop := v = some (.int d) ∧ Fr n0 L ∧ h = h0
set_option maxRecDepth 65536 in
set_option maxHeartbeats 40000000 in
theorem rm7 (l : Launch) (Z : State) (a0 : Array Value) (hw : ∀ d ∈ tables_1, d.before a0 Z = true) (ws : List Jvm.Cond) (a1 : Addr) (p2 : Int32) (k : ClassId) (n : Int32) (f : Nat → Value) (d : Int32) (h0 : Heap) (n0 : Nat) (Z0 : n0 ≤ h0.size) (G1 : Arf Z h0 a1 k .byte n f) (hd : nar .byte (((p2 - n).toUInt32 >>> ((31 : Int32) &&& 31).toUInt32).toInt32.toInt8.toInt32) = d) :
    MetFree l (⟨"java/lang/StringUTF16", "coderFromArrayLen", "([BI)B"⟩ : MethodName) (head1 (Jvm.Cond.code (⟨"java/lang/StringUTF16", "coderFromArrayLen", "([BI)B"⟩ : MethodName) jdk_52_method_15_code 2 (some .byte) :: ws) ({ frames := 0, cells := 0, slots := 0, locals := 0 } : Room)) (fun a U => a = #[(.ref a1), (.int p2)] ∧ Z.Warmed39 U.vm ∧ U.heap = h0) (fun _ _ _ _ _ => True) (fun _ U o U' => ∃ v L, o = .returned v ∧ Q7 Z a1 p2 k n f d h0 n0 v U'.heap L ∧ FrameEnd U o U' L ({ frames := 0, cells := 0, slots := 0, locals := 0 } : Room).cells ({ frames := 0, cells := 0, slots := 0, locals := 0 } : Room).slots) := by
  refine MetFree.of_bodySF (plainFor_of_name pn_7) hisR ?_
  intro p e s m args below meth c s₁ Bd hml0 hP hK
  obtain ⟨rfl, hZ, hh⟩ := hP
  have hx := Bd.exec
  have hby := Bd.bytes
  have hml : c.maxLocals = 2 := hml0
  have hown : s.vm.findClass "java/lang/StringUTF16" = some m.cls := findClass_of_methodNamed Bd.named
  have hnm := (name_of_methodNamed Bd.named Bd.method).1
  have X0 : Stand p l e ({ frames := 0, cells := 0, slots := 0, locals := 0 } : Room) s m #[(.ref a1), (.int p2)] below meth c s₁ [] 0 0 := Stand.of_body Bd
  have e0 : s₁.heap = h0 := by rw [← hh, Bd.state]; rfl
  have N0 := Fr.nil n0
  show EndsQ p.tables e below s (fun v h L => Q7 Z a1 p2 k n f d h0 n0 v h L) ({ frames := 0, cells := 0, slots := 0, locals := 0 } : Room).cells ({ frames := 0, cells := 0, slots := 0, locals := 0 } : Room).slots _
  refine EndsQ.go (b := s₁.setTop (mkF m 0 #[.val (.ref a1), .val (.int p2)] [])) (fun t k => castTop (ef_7 m a1 p2) k) ?_
  refine EndsQ.go (b := s₁.setTop (mkF m 2 #[.val (.ref a1), .val (.int p2)] [(.ref a1), (.int p2)])) (fun t k => ?_) ?_
  · show Steps p.tables e below (s₁.setTop (mkF m 0 #[.val (.ref a1), .val (.int p2)] [])) _
    refine XS.iloadN X0.here hx rfl (hb hby d7_0) rfl ?_
    refine XS.aloadN X0.here hx rfl (hb hby d7_1) rfl rfl ?_
    exact k
  obtain ⟨cl101, Ar101, -, S101, M101, -, -⟩ := id G1
  refine EndsQ.go (fun t k => X0.arraylength hx (by rw [e0]; exact Ar101.1) (State.isArrayOf_alike hZ.alike Ar101.2.1) (g := (mkF m 2 #[.val (.ref a1), .val (.int p2)] [(.ref a1), (.int p2)])) rfl rfl (hb hby d7_2) _ k) ?_
  rw [len_of S101 M101]
  show EndsQ _ _ _ _ _ _ _ (s₁.setTop (mkF m 3 #[.val (.ref a1), .val (.int p2)] [(.int n), (.int p2)]))
  refine EndsQ.go (b := s₁.setTop (mkF m 8 #[.val (.ref a1), .val (.int p2)] [(.int ((((p2 - n).toUInt32 >>> ((31 : Int32) &&& 31).toUInt32).toInt32).toInt8.toInt32))])) (fun t k => ?_) ?_
  · show Steps p.tables e below (s₁.setTop (mkF m 3 #[.val (.ref a1), .val (.int p2)] [(.int n), (.int p2)])) _
    refine XS.isub X0.here hx rfl (hb hby d7_3) rfl ?_
    refine XS.bipush X0.here hx rfl (hb hby d7_4) ?_
    show Steps p.tables e below (s₁.setTop (mkF m 6 #[.val (.ref a1), .val (.int p2)] [(.int (31 : Int32)), (.int (p2 - n))])) _
    refine XS.iushr X0.here hx rfl (hb hby d7_6) rfl ?_
    refine XS.i2b X0.here hx rfl (hb hby d7_7) rfl ?_
    exact k
  refine EndsQ.retN X0 hx Bd.notSynchronized (t := .byte) Bd.returns (by simp) (hb hby d7_8) (by decide) (by decide) ?_
  show Q7 Z a1 p2 k n f d h0 n0 (some (.int (nar .byte ((((p2 - n).toUInt32 >>> ((31 : Int32) &&& 31).toUInt32).toInt32).toInt8.toInt32)))) s₁.heap _
  rw [e0]
  exact ⟨congrArg (fun z => some (Value.int z)) hd, N0, rfl⟩
theorem ef_3 (m : MethodId) (x0 : Addr) (x1 : Addr) (x2 : Int32) (x3 : Int32) : entryFrame m #[(.ref x0), (.ref x1), (.int x2), (.int x3), .null] 6 = mkF m 0 #[.val (.ref x0), .val (.ref x1), .val (.int x2), .val (.int x3), .val .null, .unset] [] := by first | (simp [entryFrame, mkF, argsToLocals, Value.category]; done) | rfl
def Q3 (Z : State) (a1 : Addr) (a2 : Addr) (p4 : Int32) (cs : Int32) (fv : Value) (k : ClassId) (ch : Nat → Int32) (h0 : Heap) (n0 : Nat) (v : Option Value) (h : Heap) (L : List Loc) : Prop := v = none ∧ Fr n0 L ∧ Keep h0 h [a1] ∧ own_Str Z h a1 p4 ch
set_option maxRecDepth 65536 in
set_option maxHeartbeats 40000000 in
theorem rm3 (l : Launch) (Z : State) (a0 : Array Value) (hw : ∀ d ∈ tables_1, d.before a0 Z = true) (ws : List Jvm.Cond) (a1 : Addr) (a2 : Addr) (p4 : Int32) (cs : Int32) (fv : Value) (k : ClassId) (ch : Nat → Int32) (h0 : Heap) (n0 : Nat) (Z0 : n0 ≤ h0.size) (ST : own_St Z h0 cs fv) (E1 : Exa Z h0 a1 "java/lang/String") (F_v : Fld Z h0 a1 "java/lang/String" "value" "[B" .null) (F_c : Fld Z h0 a1 "java/lang/String" "coder" "B" (.int (0 : Int32))) (g2 : n0 ≤ a1) (hne : a1 ≠ a2) (G1 : Arf Z h0 a2 k .char p4 (own_cv ch)) (g0 : ¬ p4 < (0 : Int32)) (hM : p4.toInt ≤ (33 : Nat)) (hnz : ¬ p4 = (0 : Int32)) (hc : own_c16 ch) :
    MetFree l (⟨"java/lang/String", "<init>", "([CIILjava/lang/Void;)V"⟩ : MethodName) (head1 (Jvm.Cond.code (⟨"java/lang/String", "<init>", "([CIILjava/lang/Void;)V"⟩ : MethodName) jdk_42_method_149_code 6 none :: ws) ({ frames := 4, cells := 2, slots := 99, locals := 72 } : Room)) (fun a U => a = #[(.ref a1), (.ref a2), (.int (0 : Int32)), (.int p4), .null] ∧ Z.Warmed39 U.vm ∧ U.heap = h0) (fun _ _ _ _ _ => True) (fun _ U o U' => ∃ v L, o = .returned v ∧ Q3 Z a1 a2 p4 cs fv k ch h0 n0 v U'.heap L ∧ FrameEnd U o U' L ({ frames := 4, cells := 2, slots := 99, locals := 72 } : Room).cells ({ frames := 4, cells := 2, slots := 99, locals := 72 } : Room).slots) := by
  refine MetFree.of_bodySF (plainFor_of_name pn_3) hisR ?_
  intro p e s m args below meth c s₁ Bd hml0 hP hK
  obtain ⟨rfl, hZ, hh⟩ := hP
  have hx := Bd.exec
  have hby := Bd.bytes
  have hml : c.maxLocals = 6 := hml0
  have hown : s.vm.findClass "java/lang/String" = some m.cls := findClass_of_methodNamed Bd.named
  have hnm := (name_of_methodNamed Bd.named Bd.method).1
  have X0 : Stand p l e ({ frames := 4, cells := 2, slots := 99, locals := 72 } : Room) s m #[(.ref a1), (.ref a2), (.int (0 : Int32)), (.int p4), .null] below meth c s₁ [] 0 0 := Stand.of_body Bd
  have e0 : s₁.heap = h0 := by rw [← hh, Bd.state]; rfl
  have N0 := Fr.nil n0
  show EndsQ p.tables e below s (fun v h L => Q3 Z a1 a2 p4 cs fv k ch h0 n0 v h L) ({ frames := 4, cells := 2, slots := 99, locals := 72 } : Room).cells ({ frames := 4, cells := 2, slots := 99, locals := 72 } : Room).slots _
  refine EndsQ.go (b := s₁.setTop (mkF m 0 #[.val (.ref a1), .val (.ref a2), .val (.int (0 : Int32)), .val (.int p4), .val .null, .unset] [])) (fun t k => castTop (ef_3 m a1 a2 (0 : Int32) p4) k) ?_
  obtain ⟨S_C, hcs, S_F, hfv, S_A, S_H, S_L⟩ := ST
  have K0 : Keep h0 h0 [a1] := Keep.refl _ _
  refine EndsQ.go (b := s₁.setTop (mkF m 1 #[.val (.ref a1), .val (.ref a2), .val (.int (0 : Int32)), .val (.int p4), .val .null, .unset] [(.ref a1)])) (fun t k => ?_) ?_
  · show Steps p.tables e below (s₁.setTop (mkF m 0 #[.val (.ref a1), .val (.ref a2), .val (.int (0 : Int32)), .val (.int p4), .val .null, .unset] [])) _
    refine XS.aloadN X0.here hx rfl (hb hby d3_0) rfl rfl ?_
    exact k
  obtain ⟨T101, X101, e101, st101⟩ := initO X0 hx hZ hown (own_w hw 16 rfl) (own_w hw 17 rfl) (own_w hw 18 rfl) e0 (g := (mkF m 1 #[.val (.ref a1), .val (.ref a2), .val (.int (0 : Int32)), .val (.int p4), .val .null, .unset] [(.ref a1)])) rfl (by rw [hml]; rfl) rfl (hb hby d3_1) (by decide) (W := 0) (by show 2 * 0 + _ ≤ _; exact Nat.le_of_eq rfl) (by decide)
  refine EndsQ.go st101 ?_
  show EndsQ _ _ _ _ _ _ _ (T101.setTop (mkF m 4 #[.val (.ref a1), .val (.ref a2), .val (.int (0 : Int32)), .val (.int p4), .val .null, .unset] []))
  refine EndsQ.go (b := T101.setTop (mkF m 27 #[.val (.ref a1), .val (.ref a2), .val (.int (0 : Int32)), .val (.int p4), .val .null, .unset] [])) (fun t k => ?_) ?_
  · show Steps p.tables e below (T101.setTop (mkF m 4 #[.val (.ref a1), .val (.ref a2), .val (.int (0 : Int32)), .val (.int p4), .val .null, .unset] [])) _
    refine XS.iloadN X101.here hx rfl (hb hby d3_4) rfl ?_
    refine XS.ifYes X101.here hx rfl (pc0 := 5) (pc' := 27) rfl (hb hby d3_5) rfl ((if0 _ _).trans (feq hnz).2) (by decide) (by decide) ?_
    show Steps p.tables e below (T101.setTop (mkF m 27 #[.val (.ref a1), .val (.ref a2), .val (.int (0 : Int32)), .val (.int p4), .val .null, .unset] [])) _
    exact k
  obtain ⟨T102, X102, e102, st102⟩ := getS X101 hx hZ hown (host := "") (own_w hw 19 rfl) Via.refl e101 S_C (g := (mkF m 27 #[.val (.ref a1), .val (.ref a2), .val (.int (0 : Int32)), .val (.int p4), .val .null, .unset] [])) rfl (hb hby d3_27)
  refine EndsQ.go st102 ?_
  show EndsQ _ _ _ _ _ _ _ (T102.setTop (mkF m 30 #[.val (.ref a1), .val (.ref a2), .val (.int (0 : Int32)), .val (.int p4), .val .null, .unset] [(.int cs)]))
  refine EndsQ.go (b := T102.setTop (mkF m 36 #[.val (.ref a1), .val (.ref a2), .val (.int (0 : Int32)), .val (.int p4), .val .null, .unset] [(.int p4), (.int (0 : Int32)), (.ref a2)])) (fun t k => ?_) ?_
  · show Steps p.tables e below (T102.setTop (mkF m 30 #[.val (.ref a1), .val (.ref a2), .val (.int (0 : Int32)), .val (.int p4), .val .null, .unset] [(.int cs)])) _
    refine XS.ifNo X102.here hx rfl (hb hby d3_30) rfl ((if0 _ _).trans (feq hcs).1) ?_
    show Steps p.tables e below (T102.setTop (mkF m 33 #[.val (.ref a1), .val (.ref a2), .val (.int (0 : Int32)), .val (.int p4), .val .null, .unset] [])) _
    refine XS.aloadN X102.here hx rfl (hb hby d3_33) rfl rfl ?_
    refine XS.iloadN X102.here hx rfl (hb hby d3_34) rfl ?_
    show Steps p.tables e below (T102.setTop (mkF m 35 #[.val (.ref a1), .val (.ref a2), .val (.int (0 : Int32)), .val (.int p4), .val .null, .unset] [(.int (0 : Int32)), (.ref a2)])) _
    refine XS.iloadN X102.here hx rfl (hb hby d3_35) rfl ?_
    exact k
  obtain ⟨_, _, ⟨T103, L103, kk103, nn103⟩, -, X103, ⟨Lc103, hQ103, l103, y103, z103⟩, st103⟩ := Jvm.LawKit.callS X102 hx (y := (⟨"java/lang/StringUTF16", "compress", "([CII)[B"⟩ : MethodName)) hown (mvT hZ (own_w hw 20 rfl)) (mvT hZ (own_w hw 21 rfl)) (mvT hZ (own_w hw 22 rfl)) (mvT hZ (own_w hw 23 rfl)) (by decide) (backOf (W := 0) (rm5 l Z a0 hw [] a2 p4 cs fv k ch h0 n0 Z0 ⟨S_C, hcs, S_F, hfv, S_A, S_H, S_L⟩ G1 g0 hM hc) hZ (own_w hw 23 rfl) (own_w hw 22 rfl) (by decide) (by decide)) (g := (mkF m 36 #[.val (.ref a1), .val (.ref a2), .val (.int (0 : Int32)), .val (.int p4), .val .null, .unset] [(.int p4), (.int (0 : Int32)), (.ref a2)])) rfl (by rw [hml]; rfl) (argsL := [(.ref a2), (.int (0 : Int32)), (.int p4)]) (rest := []) (lenOf pd_11 rfl) rfl (by show 2 * 0 + _ ≤ _; exact Nat.le_of_eq rfl) (hb hby d3_36) (fun _ _ => ⟨rfl, e102, (by decide : 0 + 2 ≤ _), (by decide : 0 + 99 ≤ _)⟩)
  dsimp only [Pt.U, Pt.locs, Pt.cells, Pt.slots] at X103 l103 y103 z103 st103 hQ103
  subst l103 y103 z103
  obtain ⟨b103, kb103, rfl, Nq103, K103, hb103, hor⟩ := hQ103
  have N103 := Fr.app N0 Nq103
  have gn103 : n0 ≤ b103 := Nat.le_trans Z0 hb103
  have gh103 : h0.size ≤ b103 := Nat.le_trans K0.1 hb103
  have ne103_a1 : a1 ≠ b103 := Nat.ne_of_lt (Nat.lt_of_lt_of_le E1.lt hb103)
  have ne103_a2 : a2 ≠ b103 := Nat.ne_of_lt (Nat.lt_of_lt_of_le G1.lt hb103)
  have f104 := E1.keep K103
  have f105 := F_v.keep K103 nin0
  have f106 := F_c.keep K103 nin0
  have f107 := G1.keep K103 nin0
  have f108 := Nat.le_trans Z0 K103.1
  have f109 := own_sta_keep0 S_C K103
  have f110 := own_sta_keep0 S_F K103
  have f111 := own_sta_keep0 S_A K103
  have f112 := own_sta_keep0 S_H K103
  have f113 := own_sta_keep0 S_L K103
  have f114 := K0.trans K103 all0
  refine EndsQ.go st103 ?_
  show EndsQ _ _ _ _ _ _ _ (T103.setTop (mkF m 39 #[.val (.ref a1), .val (.ref a2), .val (.int (0 : Int32)), .val (.int p4), .val .null, .unset] [(.ref b103)]))
  rcases hor with hor | Gb
  · obtain ⟨Gb, hl⟩ := hor
    refine EndsQ.go (b := T103.setTop (mkF m 45 #[.val (.ref a1), .val (.ref a2), .val (.int (0 : Int32)), .val (.int p4), .val .null, .val (.ref b103)] [(.int p4), (.ref b103), (.ref a1)])) (fun t k => ?_) ?_
    · show Steps p.tables e below (T103.setTop (mkF m 39 #[.val (.ref a1), .val (.ref a2), .val (.int (0 : Int32)), .val (.int p4), .val .null, .unset] [(.ref b103)])) _
      refine XS.astore X103.here hx rfl (hb hby d3_39) rfl rfl (l' := #[.val (.ref a1), .val (.ref a2), .val (.int (0 : Int32)), .val (.int p4), .val .null, .val (.ref b103)]) rfl ?_
      refine XS.aloadN X103.here hx rfl (hb hby d3_41) rfl rfl ?_
      refine XS.aload X103.here hx rfl (hb hby d3_42) rfl rfl ?_
      show Steps p.tables e below (T103.setTop (mkF m 44 #[.val (.ref a1), .val (.ref a2), .val (.int (0 : Int32)), .val (.int p4), .val .null, .val (.ref b103)] [(.ref b103), (.ref a1)])) _
      refine XS.iloadN X103.here hx rfl (hb hby d3_44) rfl ?_
      exact k
    obtain ⟨_, _, ⟨T115, L115, kk115, nn115⟩, -, X115, ⟨Lc115, hQ115, l115, y115, z115⟩, st115⟩ := Jvm.LawKit.callS X103 hx (y := (⟨"java/lang/StringUTF16", "coderFromArrayLen", "([BI)B"⟩ : MethodName)) hown (mvT hZ (own_w hw 28 rfl)) (mvT hZ (own_w hw 29 rfl)) (mvT hZ (own_w hw 22 rfl)) (mvT hZ (own_w hw 30 rfl)) (by decide) (backOf (W := 1) (rm7 l Z a0 hw [] b103 p4 kb103 p4 (own_l1 ch) (0 : Int32) T103.heap n0 f108 Gb (own_cfa0 p4)) hZ (own_w hw 30 rfl) (own_w hw 22 rfl) (by decide) (by decide)) (g := (mkF m 45 #[.val (.ref a1), .val (.ref a2), .val (.int (0 : Int32)), .val (.int p4), .val .null, .val (.ref b103)] [(.int p4), (.ref b103), (.ref a1)])) rfl (by rw [hml]; rfl) (argsL := [(.ref b103), (.int p4)]) (rest := [(.ref a1)]) (lenOf pd_12 rfl) rfl (by show 2 * 0 + _ ≤ _; exact Nat.le_of_eq rfl) (hb hby d3_45) (fun _ _ => ⟨rfl, rfl, (by decide : 2 + 0 ≤ _), (by decide : 99 + 0 ≤ _)⟩)
    dsimp only [Pt.U, Pt.locs, Pt.cells, Pt.slots] at X115 l115 y115 z115 st115 hQ115
    subst l115 y115 z115
    obtain ⟨rfl, Nq115, eq115⟩ := hQ115
    have N115 := Fr.app N103 Nq115
    refine EndsQ.go st115 ?_
    show EndsQ _ _ _ _ _ _ _ (T115.setTop (mkF m 48 #[.val (.ref a1), .val (.ref a2), .val (.int (0 : Int32)), .val (.int p4), .val .null, .val (.ref b103)] [(.int (0 : Int32)), (.ref a1)]))
    obtain ⟨T116, h116, X116, e116, W116, st116⟩ := putFN X115 hx hZ hown (own_w hw 31 rfl) Via.refl eq115 f106 f104 (Or.inr ⟨(own_w hw 32 rfl), rfl, hnm⟩) (own_w hw 7 rfl) (ty := .byte) (v' := (.int (nar .byte (0 : Int32)))) (by decide) rfl (fits_nar_byte _) (g := (mkF m 48 #[.val (.ref a1), .val (.ref a2), .val (.int (0 : Int32)), .val (.int p4), .val .null, .val (.ref b103)] [(.int (0 : Int32)), (.ref a1)])) rfl rfl (hb hby d3_48)
    have fw116 : Fld Z h116 a1 "java/lang/String" "coder" "B" (.int (nar .byte (0 : Int32))) := f106.same W116
    have f117 := f104.wr W116
    have f118 := f105.other W116 (Or.inr (slot_ne (Or.inr (own_w hw 34 rfl)) (Or.inr (own_w hw 32 rfl)) (by decide) (t := (.array .byte)) (t' := .byte) (by decide) (by decide)))
    have f119 := f107.other W116 (Ne.symm hne)
    have f120 := Nat.le_trans f108 (Keep.of_wr W116).1
    have f121 := f109.wr W116
    have f122 := f110.wr W116
    have f123 := f111.wr W116
    have f124 := f112.wr W116
    have f125 := f113.wr W116
    have f126 := f114.wr W116 (Or.inl (List.mem_of_getElem? (i := 0) rfl))
    have f127 := Gb.other W116 (Ne.symm ne103_a1)
    have N116 := Fr.snoc X116 N115 g2
    refine EndsQ.go st116 ?_
    show EndsQ _ _ _ _ _ _ _ (T116.setTop (mkF m 51 #[.val (.ref a1), .val (.ref a2), .val (.int (0 : Int32)), .val (.int p4), .val .null, .val (.ref b103)] []))
    refine EndsQ.go (b := T116.setTop (mkF m 54 #[.val (.ref a1), .val (.ref a2), .val (.int (0 : Int32)), .val (.int p4), .val .null, .val (.ref b103)] [(.ref b103), (.ref a1)])) (fun t k => ?_) ?_
    · show Steps p.tables e below (T116.setTop (mkF m 51 #[.val (.ref a1), .val (.ref a2), .val (.int (0 : Int32)), .val (.int p4), .val .null, .val (.ref b103)] [])) _
      refine XS.aloadN X116.here hx rfl (hb hby d3_51) rfl rfl ?_
      refine XS.aload X116.here hx rfl (hb hby d3_52) rfl rfl ?_
      exact k
    obtain ⟨T128, h128, X128, e128, W128, st128⟩ := putF X116 hx hZ hown (host := "") (Or.inl (own_w hw 33 rfl)) Via.refl e116 f118 f117 (Or.inr ⟨(own_w hw 34 rfl), rfl, hnm⟩) (own_w hw 7 rfl) (ty := (.array .byte)) (by decide) rfl rfl (g := (mkF m 54 #[.val (.ref a1), .val (.ref a2), .val (.int (0 : Int32)), .val (.int p4), .val .null, .val (.ref b103)] [(.ref b103), (.ref a1)])) rfl rfl (hb hby d3_54)
    have fw128 : Fld Z h128 a1 "java/lang/String" "value" "[B" (.ref b103) := f118.same W128
    have f129 := f117.wr W128
    have f130 := f119.other W128 (Ne.symm hne)
    have f131 := Nat.le_trans f120 (Keep.of_wr W128).1
    have f132 := f121.wr W128
    have f133 := f122.wr W128
    have f134 := f123.wr W128
    have f135 := f124.wr W128
    have f136 := f125.wr W128
    have f137 := f126.wr W128 (Or.inl (List.mem_of_getElem? (i := 0) rfl))
    have f138 := f127.other W128 (Ne.symm ne103_a1)
    have f139 := fw116.other W128 (Or.inr (slot_ne (Or.inr (own_w hw 32 rfl)) (Or.inr (own_w hw 34 rfl)) (by decide) (t := .byte) (t' := (.array .byte)) (by decide) (by decide)))
    have N128 := Fr.snoc X128 N116 g2
    refine EndsQ.go st128 ?_
    show EndsQ _ _ _ _ _ _ _ (T128.setTop (mkF m 57 #[.val (.ref a1), .val (.ref a2), .val (.int (0 : Int32)), .val (.int p4), .val .null, .val (.ref b103)] []))
    refine EndsQ.retV X128 hx Bd.notSynchronized Bd.returns (hb hby d3_57) (by decide) (by decide) ?_
    show Q3 Z a1 a2 p4 cs fv k ch h0 n0 (none) T128.heap _
    rw [e128]
    have q := f139
    rw [show nar .byte (0 : Int32) = (0 : Int32) from by decide] at q
    exact ⟨rfl, N128, f137, f129, b103, kb103, fw128, Or.inl ⟨q, f138, hl⟩⟩
  · skip
    refine EndsQ.go (b := T103.setTop (mkF m 45 #[.val (.ref a1), .val (.ref a2), .val (.int (0 : Int32)), .val (.int p4), .val .null, .val (.ref b103)] [(.int p4), (.ref b103), (.ref a1)])) (fun t k => ?_) ?_
    · show Steps p.tables e below (T103.setTop (mkF m 39 #[.val (.ref a1), .val (.ref a2), .val (.int (0 : Int32)), .val (.int p4), .val .null, .unset] [(.ref b103)])) _
      refine XS.astore X103.here hx rfl (hb hby d3_39) rfl rfl (l' := #[.val (.ref a1), .val (.ref a2), .val (.int (0 : Int32)), .val (.int p4), .val .null, .val (.ref b103)]) rfl ?_
      show Steps p.tables e below (T103.setTop (mkF m 41 #[.val (.ref a1), .val (.ref a2), .val (.int (0 : Int32)), .val (.int p4), .val .null, .val (.ref b103)] [])) _
      refine XS.aloadN X103.here hx rfl (hb hby d3_41) rfl rfl ?_
      refine XS.aload X103.here hx rfl (hb hby d3_42) rfl rfl ?_
      refine XS.iloadN X103.here hx rfl (hb hby d3_44) rfl ?_
      exact k
    obtain ⟨_, _, ⟨T140, L140, kk140, nn140⟩, -, X140, ⟨Lc140, hQ140, l140, y140, z140⟩, st140⟩ := Jvm.LawKit.callS X103 hx (y := (⟨"java/lang/StringUTF16", "coderFromArrayLen", "([BI)B"⟩ : MethodName)) hown (mvT hZ (own_w hw 28 rfl)) (mvT hZ (own_w hw 29 rfl)) (mvT hZ (own_w hw 22 rfl)) (mvT hZ (own_w hw 30 rfl)) (by decide) (backOf (W := 1) (rm7 l Z a0 hw [] b103 p4 kb103 (own_dbl p4) (own_b16 ch) (1 : Int32) T103.heap n0 f108 Gb (own_cfa1 p4 g0 hnz (Int.lt_of_le_of_lt hM (by decide)))) hZ (own_w hw 30 rfl) (own_w hw 22 rfl) (by decide) (by decide)) (g := (mkF m 45 #[.val (.ref a1), .val (.ref a2), .val (.int (0 : Int32)), .val (.int p4), .val .null, .val (.ref b103)] [(.int p4), (.ref b103), (.ref a1)])) rfl (by rw [hml]; rfl) (argsL := [(.ref b103), (.int p4)]) (rest := [(.ref a1)]) (lenOf pd_12 rfl) rfl (by show 2 * 0 + _ ≤ _; exact Nat.le_of_eq rfl) (hb hby d3_45) (fun _ _ => ⟨rfl, rfl, (by decide : 2 + 0 ≤ _), (by decide : 99 + 0 ≤ _)⟩)
    dsimp only [Pt.U, Pt.locs, Pt.cells, Pt.slots] at X140 l140 y140 z140 st140 hQ140
    subst l140 y140 z140
    obtain ⟨rfl, Nq140, eq140⟩ := hQ140
    have N140 := Fr.app N103 Nq140
    refine EndsQ.go st140 ?_
    show EndsQ _ _ _ _ _ _ _ (T140.setTop (mkF m 48 #[.val (.ref a1), .val (.ref a2), .val (.int (0 : Int32)), .val (.int p4), .val .null, .val (.ref b103)] [(.int (1 : Int32)), (.ref a1)]))
    obtain ⟨T141, h141, X141, e141, W141, st141⟩ := putFN X140 hx hZ hown (own_w hw 31 rfl) Via.refl eq140 f106 f104 (Or.inr ⟨(own_w hw 32 rfl), rfl, hnm⟩) (own_w hw 7 rfl) (ty := .byte) (v' := (.int (nar .byte (1 : Int32)))) (by decide) rfl (fits_nar_byte _) (g := (mkF m 48 #[.val (.ref a1), .val (.ref a2), .val (.int (0 : Int32)), .val (.int p4), .val .null, .val (.ref b103)] [(.int (1 : Int32)), (.ref a1)])) rfl rfl (hb hby d3_48)
    have fw141 : Fld Z h141 a1 "java/lang/String" "coder" "B" (.int (nar .byte (1 : Int32))) := f106.same W141
    have f142 := f104.wr W141
    have f143 := f105.other W141 (Or.inr (slot_ne (Or.inr (own_w hw 34 rfl)) (Or.inr (own_w hw 32 rfl)) (by decide) (t := (.array .byte)) (t' := .byte) (by decide) (by decide)))
    have f144 := f107.other W141 (Ne.symm hne)
    have f145 := Nat.le_trans f108 (Keep.of_wr W141).1
    have f146 := f109.wr W141
    have f147 := f110.wr W141
    have f148 := f111.wr W141
    have f149 := f112.wr W141
    have f150 := f113.wr W141
    have f151 := f114.wr W141 (Or.inl (List.mem_of_getElem? (i := 0) rfl))
    have f152 := Gb.other W141 (Ne.symm ne103_a1)
    have N141 := Fr.snoc X141 N140 g2
    refine EndsQ.go st141 ?_
    show EndsQ _ _ _ _ _ _ _ (T141.setTop (mkF m 51 #[.val (.ref a1), .val (.ref a2), .val (.int (0 : Int32)), .val (.int p4), .val .null, .val (.ref b103)] []))
    refine EndsQ.go (b := T141.setTop (mkF m 54 #[.val (.ref a1), .val (.ref a2), .val (.int (0 : Int32)), .val (.int p4), .val .null, .val (.ref b103)] [(.ref b103), (.ref a1)])) (fun t k => ?_) ?_
    · show Steps p.tables e below (T141.setTop (mkF m 51 #[.val (.ref a1), .val (.ref a2), .val (.int (0 : Int32)), .val (.int p4), .val .null, .val (.ref b103)] [])) _
      refine XS.aloadN X141.here hx rfl (hb hby d3_51) rfl rfl ?_
      show Steps p.tables e below (T141.setTop (mkF m 52 #[.val (.ref a1), .val (.ref a2), .val (.int (0 : Int32)), .val (.int p4), .val .null, .val (.ref b103)] [(.ref a1)])) _
      refine XS.aload X141.here hx rfl (hb hby d3_52) rfl rfl ?_
      exact k
    obtain ⟨T153, h153, X153, e153, W153, st153⟩ := putF X141 hx hZ hown (host := "") (Or.inl (own_w hw 33 rfl)) Via.refl e141 f143 f142 (Or.inr ⟨(own_w hw 34 rfl), rfl, hnm⟩) (own_w hw 7 rfl) (ty := (.array .byte)) (by decide) rfl rfl (g := (mkF m 54 #[.val (.ref a1), .val (.ref a2), .val (.int (0 : Int32)), .val (.int p4), .val .null, .val (.ref b103)] [(.ref b103), (.ref a1)])) rfl rfl (hb hby d3_54)
    have fw153 : Fld Z h153 a1 "java/lang/String" "value" "[B" (.ref b103) := f143.same W153
    have f154 := f142.wr W153
    have f155 := f144.other W153 (Ne.symm hne)
    have f156 := Nat.le_trans f145 (Keep.of_wr W153).1
    have f157 := f146.wr W153
    have f158 := f147.wr W153
    have f159 := f148.wr W153
    have f160 := f149.wr W153
    have f161 := f150.wr W153
    have f162 := f151.wr W153 (Or.inl (List.mem_of_getElem? (i := 0) rfl))
    have f163 := f152.other W153 (Ne.symm ne103_a1)
    have f164 := fw141.other W153 (Or.inr (slot_ne (Or.inr (own_w hw 32 rfl)) (Or.inr (own_w hw 34 rfl)) (by decide) (t := .byte) (t' := (.array .byte)) (by decide) (by decide)))
    have N153 := Fr.snoc X153 N141 g2
    refine EndsQ.go st153 ?_
    show EndsQ _ _ _ _ _ _ _ (T153.setTop (mkF m 57 #[.val (.ref a1), .val (.ref a2), .val (.int (0 : Int32)), .val (.int p4), .val .null, .val (.ref b103)] []))
    refine EndsQ.retV X153 hx Bd.notSynchronized Bd.returns (hb hby d3_57) (by decide) (by decide) ?_
    show Q3 Z a1 a2 p4 cs fv k ch h0 n0 (none) T153.heap _
    rw [e153]
    have q := f164
    rw [show nar .byte (1 : Int32) = (1 : Int32) from by decide] at q
    exact ⟨rfl, N153, f162, f154, b103, kb103, fw153, Or.inr ⟨q, f163⟩⟩
theorem ef_2 (m : MethodId) (x0 : Addr) (x1 : Addr) : entryFrame m #[(.ref x0), (.ref x1)] 2 = mkF m 0 #[.val (.ref x0), .val (.ref x1)] [] := by first | (simp [entryFrame, mkF, argsToLocals, Value.category]; done) | rfl
def Q2 (Z : State) (a1 : Addr) (a2 : Addr) (cs : Int32) (fv : Value) (k : ClassId) (n : Int32) (ch : Nat → Int32) (h0 : Heap) (n0 : Nat) (v : Option Value) (h : Heap) (L : List Loc) : Prop := v = none ∧ Fr n0 L ∧ Keep h0 h [a1] ∧ own_Str Z h a1 n ch
set_option maxRecDepth 65536 in
set_option maxHeartbeats 40000000 in
theorem rm2 (l : Launch) (Z : State) (a0 : Array Value) (hw : ∀ d ∈ tables_1, d.before a0 Z = true) (ws : List Jvm.Cond) (a1 : Addr) (a2 : Addr) (cs : Int32) (fv : Value) (k : ClassId) (n : Int32) (ch : Nat → Int32) (h0 : Heap) (n0 : Nat) (Z0 : n0 ≤ h0.size) (ST : own_St Z h0 cs fv) (E1 : Exa Z h0 a1 "java/lang/String") (F_v : Fld Z h0 a1 "java/lang/String" "value" "[B" .null) (F_c : Fld Z h0 a1 "java/lang/String" "coder" "B" (.int (0 : Int32))) (g2 : n0 ≤ a1) (hne : a1 ≠ a2) (G1 : Arf Z h0 a2 k .char n (own_cv ch)) (g0 : ¬ n < (0 : Int32)) (hM : n.toInt ≤ (33 : Nat)) (hnz : ¬ n = (0 : Int32)) (hc : own_c16 ch) :
    MetFree l (⟨"java/lang/String", "<init>", "([C)V"⟩ : MethodName) (head1 (Jvm.Cond.code (⟨"java/lang/String", "<init>", "([C)V"⟩ : MethodName) jdk_42_method_3_code 2 none :: ws) ({ frames := 5, cells := 2, slots := 99, locals := 96 } : Room)) (fun a U => a = #[(.ref a1), (.ref a2)] ∧ Z.Warmed39 U.vm ∧ U.heap = h0) (fun _ _ _ _ _ => True) (fun _ U o U' => ∃ v L, o = .returned v ∧ Q2 Z a1 a2 cs fv k n ch h0 n0 v U'.heap L ∧ FrameEnd U o U' L ({ frames := 5, cells := 2, slots := 99, locals := 96 } : Room).cells ({ frames := 5, cells := 2, slots := 99, locals := 96 } : Room).slots) := by
  refine MetFree.of_bodySF (plainFor_of_name pn_2) hisR ?_
  intro p e s m args below meth c s₁ Bd hml0 hP hK
  obtain ⟨rfl, hZ, hh⟩ := hP
  have hx := Bd.exec
  have hby := Bd.bytes
  have hml : c.maxLocals = 2 := hml0
  have hown : s.vm.findClass "java/lang/String" = some m.cls := findClass_of_methodNamed Bd.named
  have hnm := (name_of_methodNamed Bd.named Bd.method).1
  have X0 : Stand p l e ({ frames := 5, cells := 2, slots := 99, locals := 96 } : Room) s m #[(.ref a1), (.ref a2)] below meth c s₁ [] 0 0 := Stand.of_body Bd
  have e0 : s₁.heap = h0 := by rw [← hh, Bd.state]; rfl
  have N0 := Fr.nil n0
  show EndsQ p.tables e below s (fun v h L => Q2 Z a1 a2 cs fv k n ch h0 n0 v h L) ({ frames := 5, cells := 2, slots := 99, locals := 96 } : Room).cells ({ frames := 5, cells := 2, slots := 99, locals := 96 } : Room).slots _
  refine EndsQ.go (b := s₁.setTop (mkF m 0 #[.val (.ref a1), .val (.ref a2)] [])) (fun t k => castTop (ef_2 m a1 a2) k) ?_
  obtain ⟨S_C, hcs, S_F, hfv, S_A, S_H, S_L⟩ := ST
  have K0 : Keep h0 h0 [a1] := Keep.refl _ _
  refine EndsQ.go (b := s₁.setTop (mkF m 4 #[.val (.ref a1), .val (.ref a2)] [(.ref a2), (.int (0 : Int32)), (.ref a2), (.ref a1)])) (fun t k => ?_) ?_
  · show Steps p.tables e below (s₁.setTop (mkF m 0 #[.val (.ref a1), .val (.ref a2)] [])) _
    refine XS.aloadN X0.here hx rfl (hb hby d2_0) rfl rfl ?_
    refine XS.aloadN X0.here hx rfl (hb hby d2_1) rfl rfl ?_
    refine XS.iconst X0.here hx rfl (hb hby d2_2) ?_
    refine XS.aloadN X0.here hx rfl (hb hby d2_3) rfl rfl ?_
    show Steps p.tables e below (s₁.setTop (mkF m 4 #[.val (.ref a1), .val (.ref a2)] [(.ref a2), (.int (0 : Int32)), (.ref a2), (.ref a1)])) _
    exact k
  obtain ⟨cl101, Ar101, -, S101, M101, -, -⟩ := id G1
  refine EndsQ.go (fun t k => X0.arraylength hx (by rw [e0]; exact Ar101.1) (State.isArrayOf_alike hZ.alike Ar101.2.1) (g := (mkF m 4 #[.val (.ref a1), .val (.ref a2)] [(.ref a2), (.int (0 : Int32)), (.ref a2), (.ref a1)])) rfl rfl (hb hby d2_4) _ k) ?_
  rw [len_of S101 M101]
  show EndsQ _ _ _ _ _ _ _ (s₁.setTop (mkF m 5 #[.val (.ref a1), .val (.ref a2)] [(.int n), (.int (0 : Int32)), (.ref a2), (.ref a1)]))
  refine EndsQ.go (b := s₁.setTop (mkF m 6 #[.val (.ref a1), .val (.ref a2)] [.null, (.int n), (.int (0 : Int32)), (.ref a2), (.ref a1)])) (fun t k => ?_) ?_
  · show Steps p.tables e below (s₁.setTop (mkF m 5 #[.val (.ref a1), .val (.ref a2)] [(.int n), (.int (0 : Int32)), (.ref a2), (.ref a1)])) _
    refine XS.aconstNull X0.here hx rfl (hb hby d2_5) ?_
    exact k
  obtain ⟨_, _, ⟨T102, L102, kk102, nn102⟩, -, X102, ⟨Lc102, hQ102, l102, y102, z102⟩, st102⟩ := X0.specialBack hx (y := (⟨"java/lang/String", "<init>", "([CIILjava/lang/Void;)V"⟩ : MethodName)) rfl hown (mvT hZ (own_w hw 12 rfl)) (mvT hZ (own_w hw 13 rfl)) (mvT hZ (own_w hw 15 rfl)) (by decide) (backOf (W := 0) (rm3 l Z a0 hw [] a1 a2 n cs fv k ch h0 n0 Z0 ⟨S_C, hcs, S_F, hfv, S_A, S_H, S_L⟩ E1 F_v F_c g2 hne G1 g0 hM hnz hc) hZ (own_w hw 15 rfl) (own_w hw 8 rfl) (by decide) (by decide)) (g := (mkF m 6 #[.val (.ref a1), .val (.ref a2)] [.null, (.int n), (.int (0 : Int32)), (.ref a2), (.ref a1)])) rfl (by rw [hml]; rfl) (Steps.refl _) (a := a1) (argsL := [(.ref a2), (.int (0 : Int32)), (.int n), .null]) (rest := []) (lenOf pd_13 rfl) rfl (by show 2 * 0 + _ ≤ _; exact Nat.le_of_eq rfl) (hb hby d2_6) (fun _ _ => ⟨rfl, e0, (by decide : 0 + 2 ≤ _), (by decide : 0 + 99 ≤ _)⟩)
  dsimp only [Pt.U, Pt.locs, Pt.cells, Pt.slots] at X102 l102 y102 z102 st102 hQ102
  subst l102 y102 z102
  obtain ⟨rfl, Nq102, K102, Y102⟩ := hQ102
  have N102 := Fr.app N0 Nq102
  have f103 := E1.keep K102
  have f104 := G1.keep K102 (ninS (Ne.symm hne) nin0)
  have f105 := Nat.le_trans Z0 K102.1
  have f106 := own_sta_keep S_C K102 E1
  have f107 := own_sta_keep S_F K102 E1
  have f108 := own_sta_keep S_A K102 E1
  have f109 := own_sta_keep S_H K102 E1
  have f110 := own_sta_keep S_L K102 E1
  have f111 := K0.trans K102 (allS (Or.inl (List.mem_of_getElem? (i := 0) rfl)) all0)
  refine EndsQ.go (fun t k => st102.trans k) ?_
  show EndsQ _ _ _ _ _ _ _ (T102.setTop (mkF m 9 #[.val (.ref a1), .val (.ref a2)] []))
  refine EndsQ.retV X102 hx Bd.notSynchronized Bd.returns (hb hby d2_9) (by decide) (by decide) ?_
  show Q2 Z a1 a2 cs fv k n ch h0 n0 (none) T102.heap _
  exact ⟨rfl, N102, f111, Y102⟩
theorem ef_I5E (m : MethodId) (x0 : Addr) (x1 : Addr) (x2 : Int32) (x3 : Int32) : entryFrame m #[(.ref x0), (.ref x1), (.int x2), (.int x3), .null] 6 = mkF m 0 #[.val (.ref x0), .val (.ref x1), .val (.int x2), .val (.int x3), .val .null, .unset] [] := by first | (simp [entryFrame, mkF, argsToLocals, Value.category]; done) | rfl
def QI5E (Z : State) (a1 : Addr) (a2 : Addr) (ch : Nat → Int32) (h0 : Heap) (n0 : Nat) (v : Option Value) (h : Heap) (L : List Loc) : Prop := v = none ∧ Fr n0 L ∧ Keep h0 h [a1] ∧ own_Str Z h a1 (0 : Int32) ch
set_option maxRecDepth 65536 in
set_option maxHeartbeats 40000000 in
theorem rmI5E (l : Launch) (Z : State) (a0 : Array Value) (hw : ∀ d ∈ tables_1, d.before a0 Z = true) (ws : List Jvm.Cond) (a1 : Addr) (a2 : Addr) (ch : Nat → Int32) (h0 : Heap) (n0 : Nat) (Z0 : n0 ≤ h0.size) (E1 : Exa Z h0 a1 "java/lang/String") (F_v : Fld Z h0 a1 "java/lang/String" "value" "[B" .null) (F_c : Fld Z h0 a1 "java/lang/String" "coder" "B" (.int (0 : Int32))) (g2 : n0 ≤ a1) :
    MetFree l (⟨"java/lang/String", "<init>", "([CIILjava/lang/Void;)V"⟩ : MethodName) (head1 (Jvm.Cond.code (⟨"java/lang/String", "<init>", "([CIILjava/lang/Void;)V"⟩ : MethodName) jdk_42_method_149_code 6 none :: ws) ({ frames := 1, cells := 2, slots := 4, locals := 12 } : Room)) (fun a U => a = #[(.ref a1), (.ref a2), (.int (0 : Int32)), (.int (0 : Int32)), .null] ∧ Z.Warmed39 U.vm ∧ U.heap = h0 ∧ CHv Z [("java/lang/String", 7)] U.vm h0) (fun _ _ _ _ _ => True) (fun _ U o U' => ∃ v L, o = .returned v ∧ QI5E Z a1 a2 ch h0 n0 v U'.heap L ∧ ReturnedEndW U o U' L ({ frames := 1, cells := 2, slots := 4, locals := 12 } : Room).cells ({ frames := 1, cells := 2, slots := 4, locals := 12 } : Room).slots) := by
  refine MetFree.of_bodySF (plainFor_of_name pn_3) hisR ?_
  intro p e s m args below meth c s₁ Bd hml0 hP hK
  obtain ⟨rfl, hZ, hh, HC⟩ := hP
  have hx := Bd.exec
  have hby := Bd.bytes
  have hml : c.maxLocals = 6 := hml0
  have hown : s.vm.findClass "java/lang/String" = some m.cls := findClass_of_methodNamed Bd.named
  have hnm := (name_of_methodNamed Bd.named Bd.method).1
  have X0 : Stand p l e ({ frames := 1, cells := 2, slots := 4, locals := 12 } : Room) (s.setVm s.vm) m #[(.ref a1), (.ref a2), (.int (0 : Int32)), (.int (0 : Int32)), .null] below meth c s₁ [] 0 0 := Stand.of_body Bd
  have e0 : s₁.heap = h0 := by rw [← hh, Bd.state]; rfl
  have N0 := Fr.nil n0
  show EndsW p.tables e below s (fun v h L => QI5E Z a1 a2 ch h0 n0 v h L) ({ frames := 1, cells := 2, slots := 4, locals := 12 } : Room).cells ({ frames := 1, cells := 2, slots := 4, locals := 12 } : Room).slots _
  refine EndsW.go (b := s₁.setTop (mkF m 0 #[.val (.ref a1), .val (.ref a2), .val (.int (0 : Int32)), .val (.int (0 : Int32)), .val .null, .unset] [])) (fun t k => castTop (ef_I5E m a1 a2 (0 : Int32) (0 : Int32)) k) ?_
  have hS0 : s.Since s.vm s.heap.size := (State.WarmedH.refl s).since _
  have hk0 : s.heap.size ≤ h0.size := Nat.le_of_eq (congrArg Array.size hh)
  have hZ : Z.Warmed39 (s.setVm s.vm).vm := hZ
  have hown : (s.setVm s.vm).vm.findClass "java/lang/String" = some m.cls := hown
  have K0 : Keep h0 h0 [a1] := Keep.refl _ _
  have hEL : EW Z a0 [("java/lang/String", 7)] := EW.cons (own_w hw 76 rfl) (by simp) EW.nil
  refine EndsW.go (b := s₁.setTop (mkF m 1 #[.val (.ref a1), .val (.ref a2), .val (.int (0 : Int32)), .val (.int (0 : Int32)), .val .null, .unset] [(.ref a1)])) (fun t k => ?_) ?_
  · show Steps p.tables e below (s₁.setTop (mkF m 0 #[.val (.ref a1), .val (.ref a2), .val (.int (0 : Int32)), .val (.int (0 : Int32)), .val .null, .unset] [])) _
    refine XS.aloadN X0.here hx rfl (hb hby d3_0) rfl rfl ?_
    exact k
  obtain ⟨T101, X101, e101, st101⟩ := initO X0 hx hZ hown (own_w hw 16 rfl) (own_w hw 17 rfl) (own_w hw 18 rfl) e0 (g := (mkF m 1 #[.val (.ref a1), .val (.ref a2), .val (.int (0 : Int32)), .val (.int (0 : Int32)), .val .null, .unset] [(.ref a1)])) rfl (by rw [hml]; rfl) rfl (hb hby d3_1) (by decide) (W := 0) (by show 2 * 0 + _ ≤ _; exact Nat.le_of_eq rfl) (by decide)
  refine EndsW.go st101 ?_
  show EndsW _ _ _ _ _ _ _ (T101.setTop (mkF m 4 #[.val (.ref a1), .val (.ref a2), .val (.int (0 : Int32)), .val (.int (0 : Int32)), .val .null, .unset] []))
  refine EndsW.go (b := T101.setTop (mkF m 9 #[.val (.ref a1), .val (.ref a2), .val (.int (0 : Int32)), .val (.int (0 : Int32)), .val .null, .unset] [(.ref a1)])) (fun t k => ?_) ?_
  · show Steps p.tables e below (T101.setTop (mkF m 4 #[.val (.ref a1), .val (.ref a2), .val (.int (0 : Int32)), .val (.int (0 : Int32)), .val .null, .unset] [])) _
    refine XS.iloadN X101.here hx rfl (hb hby d3_4) rfl ?_
    refine XS.ifNo X101.here hx rfl (hb hby d3_5) rfl ((if0 _ _).trans (teq (by decide)).2) ?_
    show Steps p.tables e below (T101.setTop (mkF m 8 #[.val (.ref a1), .val (.ref a2), .val (.int (0 : Int32)), .val (.int (0 : Int32)), .val .null, .unset] [])) _
    refine XS.aloadN X101.here hx rfl (hb hby d3_8) rfl rfl ?_
    exact k
  have wS102 : ∀ a ∈ Bundle.stringAtoms, a.before a0 Z = true := by
    intro d hd
    simp only [Bundle.stringAtoms, List.mem_cons, List.not_mem_nil, or_false] at hd
    rcases hd with rfl | rfl | rfl | rfl | rfl | rfl | rfl
    · exact (own_w hw 8 rfl)
    · exact (own_w hw 7 rfl)
    · exact (own_w hw 24 rfl)
    · exact (own_w hw 34 rfl)
    · exact (own_w hw 32 rfl)
    · exact (own_w hw 77 rfl)
    · exact (own_w hw 78 rfl)
  obtain ⟨sa102, T102, h102, kn102, sb102, sk102, X102, e102, E102, hS102, hk102, hZ102, hown102, Ea102, Fc102, Fv102, Av102, -, -, -, Lt102, -, st102⟩ := ldcCH (s := s) X101 hx hZ hown (own_w hw 76 rfl) wS102 e101 hS0 hk0 hEL (List.mem_of_getElem? (i := 0) rfl) HC (vs := []) (z := 0) ⟨by simp, rfl⟩ (by decide) rfl (g := (mkF m 9 #[.val (.ref a1), .val (.ref a2), .val (.int (0 : Int32)), .val (.int (0 : Int32)), .val .null, .unset] [(.ref a1)])) rfl (hb hby d3_9) (n := 0) (by decide) (by decide) (by decide) (by decide)
  have f103 := E1.ext E102
  have f104 := F_v.ext E102
  have f105 := F_c.ext E102
  have f106 := Nat.le_trans Z0 E102.1
  have f107 := K0.ext E102
  have Gs102 : Arf Z h102 sb102 sk102 .byte (0 : Int32) (own_l1 ch) := (Arv.arf Av102).congr own_none1
  have na102 : a1 ≠ sa102 := Fld.ne f104 Fv102 (by simp)
  have nb102 : a1 ≠ sb102 := own_exaNe f103 (own_w hw 7 rfl) Gs102
  refine EndsW.go st102 ?_
  show EndsW _ _ _ _ _ _ _ (T102.setTop (mkF m 11 #[.val (.ref a1), .val (.ref a2), .val (.int (0 : Int32)), .val (.int (0 : Int32)), .val .null, .unset] [(.ref sa102), (.ref a1)]))
  obtain ⟨T108, X108, e108, st108⟩ := getF X102 hx hZ102 hown102 (host := "") (Or.inl (own_w hw 33 rfl)) Via.refl e102 Fv102 (g := (mkF m 11 #[.val (.ref a1), .val (.ref a2), .val (.int (0 : Int32)), .val (.int (0 : Int32)), .val .null, .unset] [(.ref sa102), (.ref a1)])) rfl rfl (hb hby d3_11)
  refine EndsW.go st108 ?_
  show EndsW _ _ _ _ _ _ _ (T108.setTop (mkF m 14 #[.val (.ref a1), .val (.ref a2), .val (.int (0 : Int32)), .val (.int (0 : Int32)), .val .null, .unset] [(.ref sb102), (.ref a1)]))
  obtain ⟨T109, h109, X109, e109, W109, st109⟩ := putF X108 hx hZ102 hown102 (host := "") (Or.inl (own_w hw 33 rfl)) Via.refl e108 f104 f103 (Or.inr ⟨(own_w hw 34 rfl), rfl, hnm⟩) (own_w hw 7 rfl) (ty := (.array .byte)) (by decide) rfl rfl (g := (mkF m 14 #[.val (.ref a1), .val (.ref a2), .val (.int (0 : Int32)), .val (.int (0 : Int32)), .val .null, .unset] [(.ref sb102), (.ref a1)])) rfl rfl (hb hby d3_14)
  have fw109 : Fld Z h109 a1 "java/lang/String" "value" "[B" (.ref sb102) := f104.same W109
  have f110 := f103.wr W109
  have f111 := f105.other W109 (Or.inr (slot_ne (Or.inr (own_w hw 32 rfl)) (Or.inr (own_w hw 34 rfl)) (by decide) (t := .byte) (t' := (.array .byte)) (by decide) (by decide)))
  have f112 := Nat.le_trans f106 (Keep.of_wr W109).1
  have f113 := f107.wr W109 (Or.inl (List.mem_of_getElem? (i := 0) rfl))
  have f114 := Nat.le_trans hk102 (Keep.of_wr W109).1
  have f115 := Ea102.wr W109
  have f116 := Fc102.other W109 (Or.inl (Ne.symm na102))
  have f117 := Fv102.other W109 (Or.inl (Ne.symm na102))
  have f118 := Gs102.other W109 (Ne.symm nb102)
  have N109 := Fr.snoc X109 N0 g2
  refine EndsW.go st109 ?_
  show EndsW _ _ _ _ _ _ _ (T109.setTop (mkF m 17 #[.val (.ref a1), .val (.ref a2), .val (.int (0 : Int32)), .val (.int (0 : Int32)), .val .null, .unset] []))
  refine EndsW.go (b := T109.setTop (mkF m 18 #[.val (.ref a1), .val (.ref a2), .val (.int (0 : Int32)), .val (.int (0 : Int32)), .val .null, .unset] [(.ref a1)])) (fun t k => ?_) ?_
  · show Steps p.tables e below (T109.setTop (mkF m 17 #[.val (.ref a1), .val (.ref a2), .val (.int (0 : Int32)), .val (.int (0 : Int32)), .val .null, .unset] [])) _
    refine XS.aloadN X109.here hx rfl (hb hby d3_17) rfl rfl ?_
    show Steps p.tables e below (T109.setTop (mkF m 18 #[.val (.ref a1), .val (.ref a2), .val (.int (0 : Int32)), .val (.int (0 : Int32)), .val .null, .unset] [(.ref a1)])) _
    exact k
  refine EndsW.go (fun t k => ldcAgain (s := s) X109 hx hZ102 hown102 (own_w hw 76 rfl) Lt102 (g := (mkF m 18 #[.val (.ref a1), .val (.ref a2), .val (.int (0 : Int32)), .val (.int (0 : Int32)), .val .null, .unset] [(.ref a1)])) rfl (hb hby d3_18) t k) ?_
  show EndsW _ _ _ _ _ _ _ (T109.setTop (mkF m 20 #[.val (.ref a1), .val (.ref a2), .val (.int (0 : Int32)), .val (.int (0 : Int32)), .val .null, .unset] [(.ref sa102), (.ref a1)]))
  obtain ⟨T120, X120, e120, st120⟩ := getF X109 hx hZ102 hown102 (host := "") (Or.inl (own_w hw 31 rfl)) Via.refl e109 f116 (g := (mkF m 20 #[.val (.ref a1), .val (.ref a2), .val (.int (0 : Int32)), .val (.int (0 : Int32)), .val .null, .unset] [(.ref sa102), (.ref a1)])) rfl rfl (hb hby d3_20)
  refine EndsW.go st120 ?_
  show EndsW _ _ _ _ _ _ _ (T120.setTop (mkF m 23 #[.val (.ref a1), .val (.ref a2), .val (.int (0 : Int32)), .val (.int (0 : Int32)), .val .null, .unset] [(.int (0 : Int32)), (.ref a1)]))
  obtain ⟨T121, h121, X121, e121, W121, st121⟩ := putFN X120 hx hZ102 hown102 (own_w hw 31 rfl) Via.refl e120 f111 f110 (Or.inr ⟨(own_w hw 32 rfl), rfl, hnm⟩) (own_w hw 7 rfl) (ty := .byte) (v' := (.int (nar .byte (0 : Int32)))) (by decide) rfl (fits_nar_byte _) (g := (mkF m 23 #[.val (.ref a1), .val (.ref a2), .val (.int (0 : Int32)), .val (.int (0 : Int32)), .val .null, .unset] [(.int (0 : Int32)), (.ref a1)])) rfl rfl (hb hby d3_23)
  have fw121 : Fld Z h121 a1 "java/lang/String" "coder" "B" (.int (nar .byte (0 : Int32))) := f111.same W121
  have f122 := f110.wr W121
  have f123 := Nat.le_trans f112 (Keep.of_wr W121).1
  have f124 := f113.wr W121 (Or.inl (List.mem_of_getElem? (i := 0) rfl))
  have f125 := Nat.le_trans f114 (Keep.of_wr W121).1
  have f126 := f115.wr W121
  have f127 := f116.other W121 (Or.inl (Ne.symm na102))
  have f128 := f117.other W121 (Or.inl (Ne.symm na102))
  have f129 := f118.other W121 (Ne.symm nb102)
  have f130 := fw109.other W121 (Or.inr (slot_ne (Or.inr (own_w hw 34 rfl)) (Or.inr (own_w hw 32 rfl)) (by decide) (t := (.array .byte)) (t' := .byte) (by decide) (by decide)))
  have N121 := Fr.snoc X121 N109 g2
  refine EndsW.go st121 ?_
  show EndsW _ _ _ _ _ _ _ (T121.setTop (mkF m 26 #[.val (.ref a1), .val (.ref a2), .val (.int (0 : Int32)), .val (.int (0 : Int32)), .val .null, .unset] []))
  refine EndsW.retV X121 hS102 (by rw [e121]; exact f125) hx Bd.notSynchronized Bd.returns (hb hby d3_26) (by decide) (by decide) ?_
  show QI5E Z a1 a2 ch h0 n0 (none) T121.heap _
  rw [e121]
  have q := fw121
  rw [show nar .byte (0 : Int32) = (0 : Int32) from by decide] at q
  exact ⟨rfl, N121, f124, f122, sb102, sk102, f130, Or.inl ⟨q, f129, own_none1⟩⟩
theorem ef_I2E (m : MethodId) (x0 : Addr) (x1 : Addr) : entryFrame m #[(.ref x0), (.ref x1)] 2 = mkF m 0 #[.val (.ref x0), .val (.ref x1)] [] := by first | (simp [entryFrame, mkF, argsToLocals, Value.category]; done) | rfl
def QI2E (Z : State) (a1 : Addr) (a2 : Addr) (k : ClassId) (f : Nat → Value) (ch : Nat → Int32) (h0 : Heap) (n0 : Nat) (v : Option Value) (h : Heap) (L : List Loc) : Prop := v = none ∧ Fr n0 L ∧ Keep h0 h [a1] ∧ own_Str Z h a1 (0 : Int32) ch
set_option maxRecDepth 65536 in
set_option maxHeartbeats 40000000 in
theorem rmI2E (l : Launch) (Z : State) (a0 : Array Value) (hw : ∀ d ∈ tables_1, d.before a0 Z = true) (ws : List Jvm.Cond) (a1 : Addr) (a2 : Addr) (k : ClassId) (f : Nat → Value) (ch : Nat → Int32) (h0 : Heap) (n0 : Nat) (Z0 : n0 ≤ h0.size) (E1 : Exa Z h0 a1 "java/lang/String") (F_v : Fld Z h0 a1 "java/lang/String" "value" "[B" .null) (F_c : Fld Z h0 a1 "java/lang/String" "coder" "B" (.int (0 : Int32))) (g2 : n0 ≤ a1) (hne : a1 ≠ a2) (G1 : Arf Z h0 a2 k .char (0 : Int32) f) :
    MetFree l (⟨"java/lang/String", "<init>", "([C)V"⟩ : MethodName) (head1 (Jvm.Cond.code (⟨"java/lang/String", "<init>", "([C)V"⟩ : MethodName) jdk_42_method_3_code 2 none :: ws) ({ frames := 2, cells := 2, slots := 4, locals := 32 } : Room)) (fun a U => a = #[(.ref a1), (.ref a2)] ∧ Z.Warmed39 U.vm ∧ U.heap = h0 ∧ CHv Z [("java/lang/String", 7)] U.vm h0) (fun _ _ _ _ _ => True) (fun _ U o U' => ∃ v L, o = .returned v ∧ QI2E Z a1 a2 k f ch h0 n0 v U'.heap L ∧ ReturnedEndW U o U' L ({ frames := 2, cells := 2, slots := 4, locals := 32 } : Room).cells ({ frames := 2, cells := 2, slots := 4, locals := 32 } : Room).slots) := by
  refine MetFree.of_bodySF (plainFor_of_name pn_2) hisR ?_
  intro p e s m args below meth c s₁ Bd hml0 hP hK
  obtain ⟨rfl, hZ, hh, HC⟩ := hP
  have hx := Bd.exec
  have hby := Bd.bytes
  have hml : c.maxLocals = 2 := hml0
  have hown : s.vm.findClass "java/lang/String" = some m.cls := findClass_of_methodNamed Bd.named
  have hnm := (name_of_methodNamed Bd.named Bd.method).1
  have X0 : Stand p l e ({ frames := 2, cells := 2, slots := 4, locals := 32 } : Room) (s.setVm s.vm) m #[(.ref a1), (.ref a2)] below meth c s₁ [] 0 0 := Stand.of_body Bd
  have e0 : s₁.heap = h0 := by rw [← hh, Bd.state]; rfl
  have N0 := Fr.nil n0
  show EndsW p.tables e below s (fun v h L => QI2E Z a1 a2 k f ch h0 n0 v h L) ({ frames := 2, cells := 2, slots := 4, locals := 32 } : Room).cells ({ frames := 2, cells := 2, slots := 4, locals := 32 } : Room).slots _
  refine EndsW.go (b := s₁.setTop (mkF m 0 #[.val (.ref a1), .val (.ref a2)] [])) (fun t k => castTop (ef_I2E m a1 a2) k) ?_
  have hS0 : s.Since s.vm s.heap.size := (State.WarmedH.refl s).since _
  have hk0 : s.heap.size ≤ h0.size := Nat.le_of_eq (congrArg Array.size hh)
  have hZ : Z.Warmed39 (s.setVm s.vm).vm := hZ
  have hown : (s.setVm s.vm).vm.findClass "java/lang/String" = some m.cls := hown
  have K0 : Keep h0 h0 [a1] := Keep.refl _ _
  have hEL : EW Z a0 [("java/lang/String", 7)] := EW.cons (own_w hw 76 rfl) (by simp) EW.nil
  refine EndsW.go (b := s₁.setTop (mkF m 4 #[.val (.ref a1), .val (.ref a2)] [(.ref a2), (.int (0 : Int32)), (.ref a2), (.ref a1)])) (fun t k => ?_) ?_
  · show Steps p.tables e below (s₁.setTop (mkF m 0 #[.val (.ref a1), .val (.ref a2)] [])) _
    refine XS.aloadN X0.here hx rfl (hb hby d2_0) rfl rfl ?_
    refine XS.aloadN X0.here hx rfl (hb hby d2_1) rfl rfl ?_
    refine XS.iconst X0.here hx rfl (hb hby d2_2) ?_
    refine XS.aloadN X0.here hx rfl (hb hby d2_3) rfl rfl ?_
    show Steps p.tables e below (s₁.setTop (mkF m 4 #[.val (.ref a1), .val (.ref a2)] [(.ref a2), (.int (0 : Int32)), (.ref a2), (.ref a1)])) _
    exact k
  obtain ⟨cl101, Ar101, -, S101, M101, -, -⟩ := id G1
  refine EndsW.go (fun t k => X0.arraylength hx (by rw [e0]; exact Ar101.1) (State.isArrayOf_alike hZ.alike Ar101.2.1) (g := (mkF m 4 #[.val (.ref a1), .val (.ref a2)] [(.ref a2), (.int (0 : Int32)), (.ref a2), (.ref a1)])) rfl rfl (hb hby d2_4) _ k) ?_
  rw [len_of S101 M101]
  show EndsW _ _ _ _ _ _ _ (s₁.setTop (mkF m 5 #[.val (.ref a1), .val (.ref a2)] [(.int (0 : Int32)), (.int (0 : Int32)), (.ref a2), (.ref a1)]))
  refine EndsW.go (b := s₁.setTop (mkF m 6 #[.val (.ref a1), .val (.ref a2)] [.null, (.int (0 : Int32)), (.int (0 : Int32)), (.ref a2), (.ref a1)])) (fun t k => ?_) ?_
  · show Steps p.tables e below (s₁.setTop (mkF m 5 #[.val (.ref a1), .val (.ref a2)] [(.int (0 : Int32)), (.int (0 : Int32)), (.ref a2), (.ref a1)])) _
    refine XS.aconstNull X0.here hx rfl (hb hby d2_5) ?_
    exact k
  obtain ⟨_, _, ⟨T102, L102, kk102, nn102⟩, -, Y102, hs102, hg102, ⟨Lc102, hQ102, l102, y102, z102⟩, st102⟩ := X0.specialBackS hx (y := (⟨"java/lang/String", "<init>", "([CIILjava/lang/Void;)V"⟩ : MethodName)) rfl hown (mvT hZ (own_w hw 12 rfl)) (mvT hZ (own_w hw 13 rfl)) (mvT hZ (own_w hw 15 rfl)) (by decide) (own_backSH (W := 0) (rmI5E l Z a0 hw [] a1 a2 ch h0 n0 Z0 E1 F_v F_c g2) hZ (own_w hw 15 rfl) (own_w hw 8 rfl) (by decide) (by decide) hEL HC) (g := (mkF m 6 #[.val (.ref a1), .val (.ref a2)] [.null, (.int (0 : Int32)), (.int (0 : Int32)), (.ref a2), (.ref a1)])) rfl (by rw [hml]; rfl) (Steps.refl _) (a := a1) (argsL := [(.ref a2), (.int (0 : Int32)), (.int (0 : Int32)), .null]) (rest := []) (lenOf pd_13 rfl) rfl (by show 2 * 0 + _ ≤ _; exact Nat.le_of_eq rfl) (hb hby d2_6) (fun _ _ => ⟨rfl, e0, (by decide : 0 + 2 ≤ _), (by decide : 0 + 4 ≤ _)⟩)
  dsimp only [Pt.U, Pt.locs, Pt.cells, Pt.slots] at Y102 hs102 hg102 l102 y102 z102 st102 hQ102
  subst l102 y102 z102
  obtain ⟨rfl, Nq102, K102, Ys102⟩ := hQ102
  obtain ⟨X102, hS102, hZ102, hown102⟩ := rebS hS0 (by rw [e0]; exact hk0) Y102 hs102 hg102 hZ hown
  have N102 := Fr.app N0 Nq102
  have f103 := E1.keep K102
  have f104 := G1.keep K102 (ninS (Ne.symm hne) nin0)
  have f105 := Nat.le_trans Z0 K102.1
  have f106 := K0.trans K102 (allS (Or.inl (List.mem_of_getElem? (i := 0) rfl)) all0)
  refine EndsW.go (fun t k => st102.trans k) ?_
  show EndsW _ _ _ _ _ _ _ (T102.setTop (mkF m 9 #[.val (.ref a1), .val (.ref a2)] []))
  refine EndsW.retV X102 hS102 (Nat.le_refl T102.heap.size) hx Bd.notSynchronized Bd.returns (hb hby d2_9) (by decide) (by decide) ?_
  show QI2E Z a1 a2 k f ch h0 n0 (none) T102.heap _
  exact ⟨rfl, N102, f106, Ys102⟩
theorem ef_1 (m : MethodId) (x0 : Int32) : entryFrame m #[(.int x0)] 4 = mkF m 0 #[.val (.int x0), .unset, .unset, .unset] [] := by first | (simp [entryFrame, mkF, argsToLocals, Value.category]; done) | rfl
def Q1 (Z : State) (p1 : Int32) (h0 : Heap) (n0 : Nat) (v : Option Value) (h : Heap) (L : List Loc) : Prop := v = some (.int (own_okc p1)) ∧ Fr n0 L ∧ h = h0
set_option maxRecDepth 65536 in
set_option maxHeartbeats 40000000 in
theorem rm1 (l : Launch) (Z : State) (a0 : Array Value) (hw : ∀ d ∈ tables_1, d.before a0 Z = true) (ws : List Jvm.Cond) (p1 : Int32) (h0 : Heap) (n0 : Nat) (Z0 : n0 ≤ h0.size) (hc : 0 ≤ p1.toInt) :
    MetFree l (⟨"com/example/lossfall/lossfall/model/CertificateClassIsValidNamePinLaw", "ok", "(C)Z"⟩ : MethodName) (head1 (Jvm.Cond.code (⟨"com/example/lossfall/lossfall/model/CertificateClassIsValidNamePinLaw", "ok", "(C)Z"⟩ : MethodName) method_3_code 4 (some .boolean) :: ws) ({ frames := 0, cells := 0, slots := 0, locals := 0 } : Room)) (fun a U => a = #[(.int p1)] ∧ Z.Warmed39 U.vm ∧ U.heap = h0) (fun _ _ _ _ _ => True) (fun _ U o U' => ∃ v L, o = .returned v ∧ Q1 Z p1 h0 n0 v U'.heap L ∧ FrameEnd U o U' L ({ frames := 0, cells := 0, slots := 0, locals := 0 } : Room).cells ({ frames := 0, cells := 0, slots := 0, locals := 0 } : Room).slots) := by
  refine MetFree.of_bodySF (plainFor_of_name pn_1) hisR ?_
  intro p e s m args below meth c s₁ Bd hml0 hP hK
  obtain ⟨rfl, hZ, hh⟩ := hP
  have hx := Bd.exec
  have hby := Bd.bytes
  have hml : c.maxLocals = 4 := hml0
  have hown : s.vm.findClass "com/example/lossfall/lossfall/model/CertificateClassIsValidNamePinLaw" = some m.cls := findClass_of_methodNamed Bd.named
  have hnm := (name_of_methodNamed Bd.named Bd.method).1
  have X0 : Stand p l e ({ frames := 0, cells := 0, slots := 0, locals := 0 } : Room) s m #[(.int p1)] below meth c s₁ [] 0 0 := Stand.of_body Bd
  have e0 : s₁.heap = h0 := by rw [← hh, Bd.state]; rfl
  have N0 := Fr.nil n0
  show EndsQ p.tables e below s (fun v h L => Q1 Z p1 h0 n0 v h L) ({ frames := 0, cells := 0, slots := 0, locals := 0 } : Room).cells ({ frames := 0, cells := 0, slots := 0, locals := 0 } : Room).slots _
  refine EndsQ.go (b := s₁.setTop (mkF m 0 #[.val (.int p1), .unset, .unset, .unset] [])) (fun t k => castTop (ef_1 m p1) k) ?_
  refine EndsQ.go (b := s₁.setTop (mkF m 15 #[.val (.int p1), .val (.int p1), .val (.int (p1 - (48 : Int32))), .val (.int (p1 ||| (32 : Int32)))] [(.int (45 : Int32)), (.int p1)])) (fun t k => ?_) ?_
  · show Steps p.tables e below (s₁.setTop (mkF m 0 #[.val (.int p1), .unset, .unset, .unset] [])) _
    refine XS.iloadN X0.here hx rfl (hb hby d1_0) rfl ?_
    refine XS.istoreN X0.here hx rfl (hb hby d1_1) rfl (l' := #[.val (.int p1), .val (.int p1), .unset, .unset]) rfl ?_
    refine XS.iloadN X0.here hx rfl (hb hby d1_2) rfl ?_
    refine XS.bipush X0.here hx rfl (hb hby d1_3) ?_
    show Steps p.tables e below (s₁.setTop (mkF m 5 #[.val (.int p1), .val (.int p1), .unset, .unset] [(.int (48 : Int32)), (.int p1)])) _
    refine XS.isub X0.here hx rfl (hb hby d1_5) rfl ?_
    refine XS.istoreN X0.here hx rfl (hb hby d1_6) rfl (l' := #[.val (.int p1), .val (.int p1), .val (.int (p1 - (48 : Int32))), .unset]) rfl ?_
    refine XS.iloadN X0.here hx rfl (hb hby d1_7) rfl ?_
    refine XS.bipush X0.here hx rfl (hb hby d1_8) ?_
    show Steps p.tables e below (s₁.setTop (mkF m 10 #[.val (.int p1), .val (.int p1), .val (.int (p1 - (48 : Int32))), .unset] [(.int (32 : Int32)), (.int p1)])) _
    refine XS.ior X0.here hx rfl (hb hby d1_10) rfl ?_
    refine XS.istoreN X0.here hx rfl (hb hby d1_11) rfl (l' := #[.val (.int p1), .val (.int p1), .val (.int (p1 - (48 : Int32))), .val (.int (p1 ||| (32 : Int32)))]) rfl ?_
    refine XS.iloadN X0.here hx rfl (hb hby d1_12) rfl ?_
    refine XS.bipush X0.here hx rfl (hb hby d1_13) ?_
    show Steps p.tables e below (s₁.setTop (mkF m 15 #[.val (.int p1), .val (.int p1), .val (.int (p1 - (48 : Int32))), .val (.int (p1 ||| (32 : Int32)))] [(.int (45 : Int32)), (.int p1)])) _
    exact k
  by_cases hc15_101 : p1 = (45 : Int32)
  · refine EndsQ.go (b := s₁.setTop (mkF m 40 #[.val (.int p1), .val (.int p1), .val (.int (p1 - (48 : Int32))), .val (.int (p1 ||| (32 : Int32)))] [])) (fun t k => ?_) ?_
    · show Steps p.tables e below (s₁.setTop (mkF m 15 #[.val (.int p1), .val (.int p1), .val (.int (p1 - (48 : Int32))), .val (.int (p1 ||| (32 : Int32)))] [(.int (45 : Int32)), (.int p1)])) _
      refine XS.icmpYes X0.here hx rfl (pc0 := 15) (pc' := 40) rfl (hb hby d1_15) rfl (teq hc15_101).1 (by decide) (by decide) ?_
      show Steps p.tables e below (s₁.setTop (mkF m 40 #[.val (.int p1), .val (.int p1), .val (.int (p1 - (48 : Int32))), .val (.int (p1 ||| (32 : Int32)))] [])) _
      exact k
    refine EndsQ.go (b := s₁.setTop (mkF m 45 #[.val (.int p1), .val (.int p1), .val (.int (p1 - (48 : Int32))), .val (.int (p1 ||| (32 : Int32)))] [(.int (1 : Int32))])) (fun t k => ?_) ?_
    · show Steps p.tables e below (s₁.setTop (mkF m 40 #[.val (.int p1), .val (.int p1), .val (.int (p1 - (48 : Int32))), .val (.int (p1 ||| (32 : Int32)))] [])) _
      refine XS.iconst X0.here hx rfl (hb hby d1_40) ?_
      refine XS.goto X0.here hx rfl (pc0 := 41) (pc' := 45) rfl (hb hby d1_41) (by decide) (by decide) ?_
      exact k
    refine EndsQ.retN X0 hx Bd.notSynchronized (t := .boolean) Bd.returns (by simp) (hb hby d1_45) (by decide) (by decide) ?_
    show Q1 Z p1 h0 n0 (some (.int (nar .boolean (1 : Int32)))) s₁.heap _
    rw [e0]
    exact ⟨congrArg (fun z => some (Value.int z)) (own_ok1 p1 hc (Or.inl hc15_101)), N0, rfl⟩
  · refine EndsQ.go (b := s₁.setTop (mkF m 18 #[.val (.int p1), .val (.int p1), .val (.int (p1 - (48 : Int32))), .val (.int (p1 ||| (32 : Int32)))] [])) (fun t k => ?_) ?_
    · show Steps p.tables e below (s₁.setTop (mkF m 15 #[.val (.int p1), .val (.int p1), .val (.int (p1 - (48 : Int32))), .val (.int (p1 ||| (32 : Int32)))] [(.int (45 : Int32)), (.int p1)])) _
      refine XS.icmpNo X0.here hx rfl (hb hby d1_15) rfl (feq hc15_101).1 ?_
      show Steps p.tables e below (s₁.setTop (mkF m 18 #[.val (.int p1), .val (.int p1), .val (.int (p1 - (48 : Int32))), .val (.int (p1 ||| (32 : Int32)))] [])) _
      exact k
    refine EndsQ.go (b := s₁.setTop (mkF m 19 #[.val (.int p1), .val (.int p1), .val (.int (p1 - (48 : Int32))), .val (.int (p1 ||| (32 : Int32)))] [(.int (p1 - (48 : Int32)))])) (fun t k => ?_) ?_
    · show Steps p.tables e below (s₁.setTop (mkF m 18 #[.val (.int p1), .val (.int p1), .val (.int (p1 - (48 : Int32))), .val (.int (p1 ||| (32 : Int32)))] [])) _
      refine XS.iloadN X0.here hx rfl (hb hby d1_18) rfl ?_
      exact k
    by_cases hc19_102 : (p1 - (48 : Int32)) < (0 : Int32)
    · refine EndsQ.go (b := s₁.setTop (mkF m 28 #[.val (.int p1), .val (.int p1), .val (.int (p1 - (48 : Int32))), .val (.int (p1 ||| (32 : Int32)))] [])) (fun t k => ?_) ?_
      · show Steps p.tables e below (s₁.setTop (mkF m 19 #[.val (.int p1), .val (.int p1), .val (.int (p1 - (48 : Int32))), .val (.int (p1 ||| (32 : Int32)))] [(.int (p1 - (48 : Int32)))])) _
        refine XS.ifYes X0.here hx rfl (pc0 := 19) (pc' := 28) rfl (hb hby d1_19) rfl ((if0 _ _).trans (tlt hc19_102).1) (by decide) (by decide) ?_
        show Steps p.tables e below (s₁.setTop (mkF m 28 #[.val (.int p1), .val (.int p1), .val (.int (p1 - (48 : Int32))), .val (.int (p1 ||| (32 : Int32)))] [])) _
        exact k
      refine EndsQ.go (b := s₁.setTop (mkF m 31 #[.val (.int p1), .val (.int p1), .val (.int (p1 - (48 : Int32))), .val (.int (p1 ||| (32 : Int32)))] [(.int (97 : Int32)), (.int (p1 ||| (32 : Int32)))])) (fun t k => ?_) ?_
      · show Steps p.tables e below (s₁.setTop (mkF m 28 #[.val (.int p1), .val (.int p1), .val (.int (p1 - (48 : Int32))), .val (.int (p1 ||| (32 : Int32)))] [])) _
        refine XS.iloadN X0.here hx rfl (hb hby d1_28) rfl ?_
        show Steps p.tables e below (s₁.setTop (mkF m 29 #[.val (.int p1), .val (.int p1), .val (.int (p1 - (48 : Int32))), .val (.int (p1 ||| (32 : Int32)))] [(.int (p1 ||| (32 : Int32)))])) _
        refine XS.bipush X0.here hx rfl (hb hby d1_29) ?_
        exact k
      by_cases hc31_103 : (p1 ||| (32 : Int32)) < (97 : Int32)
      · refine EndsQ.go (b := s₁.setTop (mkF m 44 #[.val (.int p1), .val (.int p1), .val (.int (p1 - (48 : Int32))), .val (.int (p1 ||| (32 : Int32)))] [])) (fun t k => ?_) ?_
        · show Steps p.tables e below (s₁.setTop (mkF m 31 #[.val (.int p1), .val (.int p1), .val (.int (p1 - (48 : Int32))), .val (.int (p1 ||| (32 : Int32)))] [(.int (97 : Int32)), (.int (p1 ||| (32 : Int32)))])) _
          refine XS.icmpYes X0.here hx rfl (pc0 := 31) (pc' := 44) rfl (hb hby d1_31) rfl (tlt hc31_103).1 (by decide) (by decide) ?_
          show Steps p.tables e below (s₁.setTop (mkF m 44 #[.val (.int p1), .val (.int p1), .val (.int (p1 - (48 : Int32))), .val (.int (p1 ||| (32 : Int32)))] [])) _
          exact k
        refine EndsQ.go (b := s₁.setTop (mkF m 45 #[.val (.int p1), .val (.int p1), .val (.int (p1 - (48 : Int32))), .val (.int (p1 ||| (32 : Int32)))] [(.int (0 : Int32))])) (fun t k => ?_) ?_
        · show Steps p.tables e below (s₁.setTop (mkF m 44 #[.val (.int p1), .val (.int p1), .val (.int (p1 - (48 : Int32))), .val (.int (p1 ||| (32 : Int32)))] [])) _
          refine XS.iconst X0.here hx rfl (hb hby d1_44) ?_
          exact k
        refine EndsQ.retN X0 hx Bd.notSynchronized (t := .boolean) Bd.returns (by simp) (hb hby d1_45) (by decide) (by decide) ?_
        show Q1 Z p1 h0 n0 (some (.int (nar .boolean (0 : Int32)))) s₁.heap _
        rw [e0]
        exact ⟨congrArg (fun z => some (Value.int z)) (own_ok0 p1 hc (fun q => by rcases q with q | q | q <;> first | exact absurd q hc15_101 | exact absurd hc19_102 q.1 | exact absurd hc31_103 q.1)), N0, rfl⟩
      · refine EndsQ.go (b := s₁.setTop (mkF m 34 #[.val (.int p1), .val (.int p1), .val (.int (p1 - (48 : Int32))), .val (.int (p1 ||| (32 : Int32)))] [])) (fun t k => ?_) ?_
        · show Steps p.tables e below (s₁.setTop (mkF m 31 #[.val (.int p1), .val (.int p1), .val (.int (p1 - (48 : Int32))), .val (.int (p1 ||| (32 : Int32)))] [(.int (97 : Int32)), (.int (p1 ||| (32 : Int32)))])) _
          refine XS.icmpNo X0.here hx rfl (hb hby d1_31) rfl (flt hc31_103).1 ?_
          show Steps p.tables e below (s₁.setTop (mkF m 34 #[.val (.int p1), .val (.int p1), .val (.int (p1 - (48 : Int32))), .val (.int (p1 ||| (32 : Int32)))] [])) _
          exact k
        refine EndsQ.go (b := s₁.setTop (mkF m 37 #[.val (.int p1), .val (.int p1), .val (.int (p1 - (48 : Int32))), .val (.int (p1 ||| (32 : Int32)))] [(.int (122 : Int32)), (.int (p1 ||| (32 : Int32)))])) (fun t k => ?_) ?_
        · show Steps p.tables e below (s₁.setTop (mkF m 34 #[.val (.int p1), .val (.int p1), .val (.int (p1 - (48 : Int32))), .val (.int (p1 ||| (32 : Int32)))] [])) _
          refine XS.iloadN X0.here hx rfl (hb hby d1_34) rfl ?_
          refine XS.bipush X0.here hx rfl (hb hby d1_35) ?_
          show Steps p.tables e below (s₁.setTop (mkF m 37 #[.val (.int p1), .val (.int p1), .val (.int (p1 - (48 : Int32))), .val (.int (p1 ||| (32 : Int32)))] [(.int (122 : Int32)), (.int (p1 ||| (32 : Int32)))])) _
          exact k
        by_cases hc37_104 : (122 : Int32) < (p1 ||| (32 : Int32))
        · refine EndsQ.go (b := s₁.setTop (mkF m 44 #[.val (.int p1), .val (.int p1), .val (.int (p1 - (48 : Int32))), .val (.int (p1 ||| (32 : Int32)))] [])) (fun t k => ?_) ?_
          · show Steps p.tables e below (s₁.setTop (mkF m 37 #[.val (.int p1), .val (.int p1), .val (.int (p1 - (48 : Int32))), .val (.int (p1 ||| (32 : Int32)))] [(.int (122 : Int32)), (.int (p1 ||| (32 : Int32)))])) _
            refine XS.icmpYes X0.here hx rfl (pc0 := 37) (pc' := 44) rfl (hb hby d1_37) rfl (tlt hc37_104).2.2.1 (by decide) (by decide) ?_
            show Steps p.tables e below (s₁.setTop (mkF m 44 #[.val (.int p1), .val (.int p1), .val (.int (p1 - (48 : Int32))), .val (.int (p1 ||| (32 : Int32)))] [])) _
            exact k
          refine EndsQ.go (b := s₁.setTop (mkF m 45 #[.val (.int p1), .val (.int p1), .val (.int (p1 - (48 : Int32))), .val (.int (p1 ||| (32 : Int32)))] [(.int (0 : Int32))])) (fun t k => ?_) ?_
          · show Steps p.tables e below (s₁.setTop (mkF m 44 #[.val (.int p1), .val (.int p1), .val (.int (p1 - (48 : Int32))), .val (.int (p1 ||| (32 : Int32)))] [])) _
            refine XS.iconst X0.here hx rfl (hb hby d1_44) ?_
            exact k
          refine EndsQ.retN X0 hx Bd.notSynchronized (t := .boolean) Bd.returns (by simp) (hb hby d1_45) (by decide) (by decide) ?_
          show Q1 Z p1 h0 n0 (some (.int (nar .boolean (0 : Int32)))) s₁.heap _
          rw [e0]
          exact ⟨congrArg (fun z => some (Value.int z)) (own_ok0 p1 hc (fun q => by rcases q with q | q | q <;> first | exact absurd q hc15_101 | exact absurd hc19_102 q.1 | exact absurd hc37_104 q.2)), N0, rfl⟩
        · refine EndsQ.go (b := s₁.setTop (mkF m 40 #[.val (.int p1), .val (.int p1), .val (.int (p1 - (48 : Int32))), .val (.int (p1 ||| (32 : Int32)))] [])) (fun t k => ?_) ?_
          · show Steps p.tables e below (s₁.setTop (mkF m 37 #[.val (.int p1), .val (.int p1), .val (.int (p1 - (48 : Int32))), .val (.int (p1 ||| (32 : Int32)))] [(.int (122 : Int32)), (.int (p1 ||| (32 : Int32)))])) _
            refine XS.icmpNo X0.here hx rfl (hb hby d1_37) rfl (flt hc37_104).2.2.1 ?_
            show Steps p.tables e below (s₁.setTop (mkF m 40 #[.val (.int p1), .val (.int p1), .val (.int (p1 - (48 : Int32))), .val (.int (p1 ||| (32 : Int32)))] [])) _
            exact k
          refine EndsQ.go (b := s₁.setTop (mkF m 45 #[.val (.int p1), .val (.int p1), .val (.int (p1 - (48 : Int32))), .val (.int (p1 ||| (32 : Int32)))] [(.int (1 : Int32))])) (fun t k => ?_) ?_
          · show Steps p.tables e below (s₁.setTop (mkF m 40 #[.val (.int p1), .val (.int p1), .val (.int (p1 - (48 : Int32))), .val (.int (p1 ||| (32 : Int32)))] [])) _
            refine XS.iconst X0.here hx rfl (hb hby d1_40) ?_
            refine XS.goto X0.here hx rfl (pc0 := 41) (pc' := 45) rfl (hb hby d1_41) (by decide) (by decide) ?_
            exact k
          refine EndsQ.retN X0 hx Bd.notSynchronized (t := .boolean) Bd.returns (by simp) (hb hby d1_45) (by decide) (by decide) ?_
          show Q1 Z p1 h0 n0 (some (.int (nar .boolean (1 : Int32)))) s₁.heap _
          rw [e0]
          exact ⟨congrArg (fun z => some (Value.int z)) (own_ok1 p1 hc (Or.inr (Or.inr ⟨hc31_103, hc37_104⟩))), N0, rfl⟩
    · refine EndsQ.go (b := s₁.setTop (mkF m 22 #[.val (.int p1), .val (.int p1), .val (.int (p1 - (48 : Int32))), .val (.int (p1 ||| (32 : Int32)))] [])) (fun t k => ?_) ?_
      · show Steps p.tables e below (s₁.setTop (mkF m 19 #[.val (.int p1), .val (.int p1), .val (.int (p1 - (48 : Int32))), .val (.int (p1 ||| (32 : Int32)))] [(.int (p1 - (48 : Int32)))])) _
        refine XS.ifNo X0.here hx rfl (hb hby d1_19) rfl ((if0 _ _).trans (flt hc19_102).1) ?_
        show Steps p.tables e below (s₁.setTop (mkF m 22 #[.val (.int p1), .val (.int p1), .val (.int (p1 - (48 : Int32))), .val (.int (p1 ||| (32 : Int32)))] [])) _
        exact k
      refine EndsQ.go (b := s₁.setTop (mkF m 25 #[.val (.int p1), .val (.int p1), .val (.int (p1 - (48 : Int32))), .val (.int (p1 ||| (32 : Int32)))] [(.int (10 : Int32)), (.int (p1 - (48 : Int32)))])) (fun t k => ?_) ?_
      · show Steps p.tables e below (s₁.setTop (mkF m 22 #[.val (.int p1), .val (.int p1), .val (.int (p1 - (48 : Int32))), .val (.int (p1 ||| (32 : Int32)))] [])) _
        refine XS.iloadN X0.here hx rfl (hb hby d1_22) rfl ?_
        show Steps p.tables e below (s₁.setTop (mkF m 23 #[.val (.int p1), .val (.int p1), .val (.int (p1 - (48 : Int32))), .val (.int (p1 ||| (32 : Int32)))] [(.int (p1 - (48 : Int32)))])) _
        refine XS.bipush X0.here hx rfl (hb hby d1_23) ?_
        exact k
      by_cases hc25_105 : (p1 - (48 : Int32)) < (10 : Int32)
      · refine EndsQ.go (b := s₁.setTop (mkF m 40 #[.val (.int p1), .val (.int p1), .val (.int (p1 - (48 : Int32))), .val (.int (p1 ||| (32 : Int32)))] [])) (fun t k => ?_) ?_
        · show Steps p.tables e below (s₁.setTop (mkF m 25 #[.val (.int p1), .val (.int p1), .val (.int (p1 - (48 : Int32))), .val (.int (p1 ||| (32 : Int32)))] [(.int (10 : Int32)), (.int (p1 - (48 : Int32)))])) _
          refine XS.icmpYes X0.here hx rfl (pc0 := 25) (pc' := 40) rfl (hb hby d1_25) rfl (tlt hc25_105).1 (by decide) (by decide) ?_
          show Steps p.tables e below (s₁.setTop (mkF m 40 #[.val (.int p1), .val (.int p1), .val (.int (p1 - (48 : Int32))), .val (.int (p1 ||| (32 : Int32)))] [])) _
          exact k
        refine EndsQ.go (b := s₁.setTop (mkF m 45 #[.val (.int p1), .val (.int p1), .val (.int (p1 - (48 : Int32))), .val (.int (p1 ||| (32 : Int32)))] [(.int (1 : Int32))])) (fun t k => ?_) ?_
        · show Steps p.tables e below (s₁.setTop (mkF m 40 #[.val (.int p1), .val (.int p1), .val (.int (p1 - (48 : Int32))), .val (.int (p1 ||| (32 : Int32)))] [])) _
          refine XS.iconst X0.here hx rfl (hb hby d1_40) ?_
          refine XS.goto X0.here hx rfl (pc0 := 41) (pc' := 45) rfl (hb hby d1_41) (by decide) (by decide) ?_
          exact k
        refine EndsQ.retN X0 hx Bd.notSynchronized (t := .boolean) Bd.returns (by simp) (hb hby d1_45) (by decide) (by decide) ?_
        show Q1 Z p1 h0 n0 (some (.int (nar .boolean (1 : Int32)))) s₁.heap _
        rw [e0]
        exact ⟨congrArg (fun z => some (Value.int z)) (own_ok1 p1 hc (Or.inr (Or.inl ⟨hc19_102, hc25_105⟩))), N0, rfl⟩
      · refine EndsQ.go (b := s₁.setTop (mkF m 28 #[.val (.int p1), .val (.int p1), .val (.int (p1 - (48 : Int32))), .val (.int (p1 ||| (32 : Int32)))] [])) (fun t k => ?_) ?_
        · show Steps p.tables e below (s₁.setTop (mkF m 25 #[.val (.int p1), .val (.int p1), .val (.int (p1 - (48 : Int32))), .val (.int (p1 ||| (32 : Int32)))] [(.int (10 : Int32)), (.int (p1 - (48 : Int32)))])) _
          refine XS.icmpNo X0.here hx rfl (hb hby d1_25) rfl (flt hc25_105).1 ?_
          show Steps p.tables e below (s₁.setTop (mkF m 28 #[.val (.int p1), .val (.int p1), .val (.int (p1 - (48 : Int32))), .val (.int (p1 ||| (32 : Int32)))] [])) _
          exact k
        refine EndsQ.go (b := s₁.setTop (mkF m 31 #[.val (.int p1), .val (.int p1), .val (.int (p1 - (48 : Int32))), .val (.int (p1 ||| (32 : Int32)))] [(.int (97 : Int32)), (.int (p1 ||| (32 : Int32)))])) (fun t k => ?_) ?_
        · show Steps p.tables e below (s₁.setTop (mkF m 28 #[.val (.int p1), .val (.int p1), .val (.int (p1 - (48 : Int32))), .val (.int (p1 ||| (32 : Int32)))] [])) _
          refine XS.iloadN X0.here hx rfl (hb hby d1_28) rfl ?_
          show Steps p.tables e below (s₁.setTop (mkF m 29 #[.val (.int p1), .val (.int p1), .val (.int (p1 - (48 : Int32))), .val (.int (p1 ||| (32 : Int32)))] [(.int (p1 ||| (32 : Int32)))])) _
          refine XS.bipush X0.here hx rfl (hb hby d1_29) ?_
          exact k
        by_cases hc31_106 : (p1 ||| (32 : Int32)) < (97 : Int32)
        · refine EndsQ.go (b := s₁.setTop (mkF m 44 #[.val (.int p1), .val (.int p1), .val (.int (p1 - (48 : Int32))), .val (.int (p1 ||| (32 : Int32)))] [])) (fun t k => ?_) ?_
          · show Steps p.tables e below (s₁.setTop (mkF m 31 #[.val (.int p1), .val (.int p1), .val (.int (p1 - (48 : Int32))), .val (.int (p1 ||| (32 : Int32)))] [(.int (97 : Int32)), (.int (p1 ||| (32 : Int32)))])) _
            refine XS.icmpYes X0.here hx rfl (pc0 := 31) (pc' := 44) rfl (hb hby d1_31) rfl (tlt hc31_106).1 (by decide) (by decide) ?_
            show Steps p.tables e below (s₁.setTop (mkF m 44 #[.val (.int p1), .val (.int p1), .val (.int (p1 - (48 : Int32))), .val (.int (p1 ||| (32 : Int32)))] [])) _
            exact k
          refine EndsQ.go (b := s₁.setTop (mkF m 45 #[.val (.int p1), .val (.int p1), .val (.int (p1 - (48 : Int32))), .val (.int (p1 ||| (32 : Int32)))] [(.int (0 : Int32))])) (fun t k => ?_) ?_
          · show Steps p.tables e below (s₁.setTop (mkF m 44 #[.val (.int p1), .val (.int p1), .val (.int (p1 - (48 : Int32))), .val (.int (p1 ||| (32 : Int32)))] [])) _
            refine XS.iconst X0.here hx rfl (hb hby d1_44) ?_
            exact k
          refine EndsQ.retN X0 hx Bd.notSynchronized (t := .boolean) Bd.returns (by simp) (hb hby d1_45) (by decide) (by decide) ?_
          show Q1 Z p1 h0 n0 (some (.int (nar .boolean (0 : Int32)))) s₁.heap _
          rw [e0]
          exact ⟨congrArg (fun z => some (Value.int z)) (own_ok0 p1 hc (fun q => by rcases q with q | q | q <;> first | exact absurd q hc15_101 | exact absurd q.2 hc25_105 | exact absurd hc31_106 q.1)), N0, rfl⟩
        · refine EndsQ.go (b := s₁.setTop (mkF m 34 #[.val (.int p1), .val (.int p1), .val (.int (p1 - (48 : Int32))), .val (.int (p1 ||| (32 : Int32)))] [])) (fun t k => ?_) ?_
          · show Steps p.tables e below (s₁.setTop (mkF m 31 #[.val (.int p1), .val (.int p1), .val (.int (p1 - (48 : Int32))), .val (.int (p1 ||| (32 : Int32)))] [(.int (97 : Int32)), (.int (p1 ||| (32 : Int32)))])) _
            refine XS.icmpNo X0.here hx rfl (hb hby d1_31) rfl (flt hc31_106).1 ?_
            show Steps p.tables e below (s₁.setTop (mkF m 34 #[.val (.int p1), .val (.int p1), .val (.int (p1 - (48 : Int32))), .val (.int (p1 ||| (32 : Int32)))] [])) _
            exact k
          refine EndsQ.go (b := s₁.setTop (mkF m 37 #[.val (.int p1), .val (.int p1), .val (.int (p1 - (48 : Int32))), .val (.int (p1 ||| (32 : Int32)))] [(.int (122 : Int32)), (.int (p1 ||| (32 : Int32)))])) (fun t k => ?_) ?_
          · show Steps p.tables e below (s₁.setTop (mkF m 34 #[.val (.int p1), .val (.int p1), .val (.int (p1 - (48 : Int32))), .val (.int (p1 ||| (32 : Int32)))] [])) _
            refine XS.iloadN X0.here hx rfl (hb hby d1_34) rfl ?_
            refine XS.bipush X0.here hx rfl (hb hby d1_35) ?_
            show Steps p.tables e below (s₁.setTop (mkF m 37 #[.val (.int p1), .val (.int p1), .val (.int (p1 - (48 : Int32))), .val (.int (p1 ||| (32 : Int32)))] [(.int (122 : Int32)), (.int (p1 ||| (32 : Int32)))])) _
            exact k
          by_cases hc37_107 : (122 : Int32) < (p1 ||| (32 : Int32))
          · refine EndsQ.go (b := s₁.setTop (mkF m 44 #[.val (.int p1), .val (.int p1), .val (.int (p1 - (48 : Int32))), .val (.int (p1 ||| (32 : Int32)))] [])) (fun t k => ?_) ?_
            · show Steps p.tables e below (s₁.setTop (mkF m 37 #[.val (.int p1), .val (.int p1), .val (.int (p1 - (48 : Int32))), .val (.int (p1 ||| (32 : Int32)))] [(.int (122 : Int32)), (.int (p1 ||| (32 : Int32)))])) _
              refine XS.icmpYes X0.here hx rfl (pc0 := 37) (pc' := 44) rfl (hb hby d1_37) rfl (tlt hc37_107).2.2.1 (by decide) (by decide) ?_
              show Steps p.tables e below (s₁.setTop (mkF m 44 #[.val (.int p1), .val (.int p1), .val (.int (p1 - (48 : Int32))), .val (.int (p1 ||| (32 : Int32)))] [])) _
              exact k
            refine EndsQ.go (b := s₁.setTop (mkF m 45 #[.val (.int p1), .val (.int p1), .val (.int (p1 - (48 : Int32))), .val (.int (p1 ||| (32 : Int32)))] [(.int (0 : Int32))])) (fun t k => ?_) ?_
            · show Steps p.tables e below (s₁.setTop (mkF m 44 #[.val (.int p1), .val (.int p1), .val (.int (p1 - (48 : Int32))), .val (.int (p1 ||| (32 : Int32)))] [])) _
              refine XS.iconst X0.here hx rfl (hb hby d1_44) ?_
              exact k
            refine EndsQ.retN X0 hx Bd.notSynchronized (t := .boolean) Bd.returns (by simp) (hb hby d1_45) (by decide) (by decide) ?_
            show Q1 Z p1 h0 n0 (some (.int (nar .boolean (0 : Int32)))) s₁.heap _
            rw [e0]
            exact ⟨congrArg (fun z => some (Value.int z)) (own_ok0 p1 hc (fun q => by rcases q with q | q | q <;> first | exact absurd q hc15_101 | exact absurd q.2 hc25_105 | exact absurd hc37_107 q.2)), N0, rfl⟩
          · refine EndsQ.go (b := s₁.setTop (mkF m 40 #[.val (.int p1), .val (.int p1), .val (.int (p1 - (48 : Int32))), .val (.int (p1 ||| (32 : Int32)))] [])) (fun t k => ?_) ?_
            · show Steps p.tables e below (s₁.setTop (mkF m 37 #[.val (.int p1), .val (.int p1), .val (.int (p1 - (48 : Int32))), .val (.int (p1 ||| (32 : Int32)))] [(.int (122 : Int32)), (.int (p1 ||| (32 : Int32)))])) _
              refine XS.icmpNo X0.here hx rfl (hb hby d1_37) rfl (flt hc37_107).2.2.1 ?_
              show Steps p.tables e below (s₁.setTop (mkF m 40 #[.val (.int p1), .val (.int p1), .val (.int (p1 - (48 : Int32))), .val (.int (p1 ||| (32 : Int32)))] [])) _
              exact k
            refine EndsQ.go (b := s₁.setTop (mkF m 45 #[.val (.int p1), .val (.int p1), .val (.int (p1 - (48 : Int32))), .val (.int (p1 ||| (32 : Int32)))] [(.int (1 : Int32))])) (fun t k => ?_) ?_
            · show Steps p.tables e below (s₁.setTop (mkF m 40 #[.val (.int p1), .val (.int p1), .val (.int (p1 - (48 : Int32))), .val (.int (p1 ||| (32 : Int32)))] [])) _
              refine XS.iconst X0.here hx rfl (hb hby d1_40) ?_
              refine XS.goto X0.here hx rfl (pc0 := 41) (pc' := 45) rfl (hb hby d1_41) (by decide) (by decide) ?_
              exact k
            refine EndsQ.retN X0 hx Bd.notSynchronized (t := .boolean) Bd.returns (by simp) (hb hby d1_45) (by decide) (by decide) ?_
            show Q1 Z p1 h0 n0 (some (.int (nar .boolean (1 : Int32)))) s₁.heap _
            rw [e0]
            exact ⟨congrArg (fun z => some (Value.int z)) (own_ok1 p1 hc (Or.inr (Or.inr ⟨hc31_106, hc37_107⟩))), N0, rfl⟩
theorem ef_B31 (m : MethodId) (x0 : Int32) : entryFrame m #[(.int x0)] 1 = mkF m 0 #[.val (.int x0)] [] := by first | (simp [entryFrame, mkF, argsToLocals, Value.category]; done) | rfl
def QB31 (Z : State)  (h0 : Heap) (n0 : Nat) (v : Option Value) (h : Heap) (L : List Loc) : Prop := ∃ (b : Addr) (kb : ClassId), v = some (.ref b) ∧ Fr n0 L ∧ Keep h0 h [] ∧ h0.size ≤ b ∧ Arf Z h b kb .char (31 : Int32) (own_cv own_base)
set_option maxRecDepth 65536 in
set_option maxHeartbeats 40000000 in
theorem rmB31 (l : Launch) (Z : State) (a0 : Array Value) (hw : ∀ d ∈ tables_1, d.before a0 Z = true) (ws : List Jvm.Cond)  (h0 : Heap) (n0 : Nat) (Z0 : n0 ≤ h0.size) :
    MetFree l (⟨"com/example/lossfall/lossfall/model/CertificateClassIsValidNamePinLaw", "base", "(I)[C"⟩ : MethodName) (head1 (Jvm.Cond.code (⟨"com/example/lossfall/lossfall/model/CertificateClassIsValidNamePinLaw", "base", "(I)[C"⟩ : MethodName) method_4_code 1 (some (.array .char)) :: ws) ({ frames := 0, cells := 1, slots := 33, locals := 0 } : Room)) (fun a U => a = #[(.int (31 : Int32))] ∧ Z.Warmed39 U.vm ∧ U.heap = h0) (fun _ _ _ _ _ => True) (fun _ U o U' => ∃ v L, o = .returned v ∧ QB31 Z h0 n0 v U'.heap L ∧ FrameEnd U o U' L ({ frames := 0, cells := 1, slots := 33, locals := 0 } : Room).cells ({ frames := 0, cells := 1, slots := 33, locals := 0 } : Room).slots) := by
  refine MetFree.of_bodySF (plainFor_of_name pn_17) hisR ?_
  intro p e s m args below meth c s₁ Bd hml0 hP hK
  obtain ⟨rfl, hZ, hh⟩ := hP
  have hx := Bd.exec
  have hby := Bd.bytes
  have hml : c.maxLocals = 1 := hml0
  have hown : s.vm.findClass "com/example/lossfall/lossfall/model/CertificateClassIsValidNamePinLaw" = some m.cls := findClass_of_methodNamed Bd.named
  have hnm := (name_of_methodNamed Bd.named Bd.method).1
  have X0 : Stand p l e ({ frames := 0, cells := 1, slots := 33, locals := 0 } : Room) s m #[(.int (31 : Int32))] below meth c s₁ [] 0 0 := Stand.of_body Bd
  have e0 : s₁.heap = h0 := by rw [← hh, Bd.state]; rfl
  have N0 := Fr.nil n0
  show EndsQ p.tables e below s (fun v h L => QB31 Z h0 n0 v h L) ({ frames := 0, cells := 1, slots := 33, locals := 0 } : Room).cells ({ frames := 0, cells := 1, slots := 33, locals := 0 } : Room).slots _
  refine EndsQ.go (b := s₁.setTop (mkF m 0 #[.val (.int (31 : Int32))] [])) (fun t k => castTop (ef_B31 m (31 : Int32)) k) ?_
  have K0 : Keep h0 h0 [] := Keep.refl _ _
  refine EndsQ.go (b := s₁.setTop (mkF m 8 #[.val (.int (31 : Int32))] [(.int (31 : Int32))])) (fun t k => ?_) ?_
  · show Steps p.tables e below (s₁.setTop (mkF m 0 #[.val (.int (31 : Int32))] [])) _
    refine XS.iloadN X0.here hx rfl (hb hby d17_0) rfl ?_
    refine XS.bipush X0.here hx rfl (hb hby d17_1) ?_
    refine XS.icmpNo X0.here hx rfl (hb hby d17_3) rfl (teq (by decide)).2 ?_
    show Steps p.tables e below (s₁.setTop (mkF m 6 #[.val (.int (31 : Int32))] [])) _
    refine XS.bipush X0.here hx rfl (hb hby d17_6) ?_
    exact k
  obtain ⟨T101, h101, k101, X101, e101, E101, A101, st101⟩ := newP X0 hx hZ (own_w hw 1 rfl) e0 (g := (mkF m 8 #[.val (.int (31 : Int32))] [(.int (31 : Int32))])) rfl (hb hby d17_8) rfl (by decide) (cap := 31) (by decide) (by decide) (by decide) (by decide)
  obtain ⟨b101, g101⟩ : ∃ z, z = h0.size := ⟨_, rfl⟩
  rw [← g101] at A101 st101
  have gn101 : n0 ≤ b101 := Nat.le_trans Z0 (Nat.le_of_eq g101.symm)
  have gh101 : h0.size ≤ b101 := Nat.le_trans K0.1 (Nat.le_of_eq g101.symm)
  have f102 := Nat.le_trans Z0 E101.1
  have f103 := K0.ext E101
  have f104 : Arf Z h101 b101 k101 .char (31 : Int32) (fun _ => .int (0 : Int32)) := Arf.new A101 (by decide)
  refine EndsQ.go st101 ?_
  show EndsQ _ _ _ _ _ _ _ (T101.setTop (mkF m 10 #[.val (.int (31 : Int32))] [(.ref b101)]))
  refine EndsQ.go (b := T101.setTop (mkF m 14 #[.val (.int (31 : Int32))] [(.int (65 : Int32)), (.int (0 : Int32)), (.ref b101), (.ref b101)])) (fun t k => ?_) ?_
  · show Steps p.tables e below (T101.setTop (mkF m 10 #[.val (.int (31 : Int32))] [(.ref b101)])) _
    refine XS.dup X101.here hx rfl (hb hby d17_10) rfl rfl ?_
    show Steps p.tables e below (T101.setTop (mkF m 11 #[.val (.int (31 : Int32))] [(.ref b101), (.ref b101)])) _
    refine XS.iconst X101.here hx rfl (hb hby d17_11) ?_
    refine XS.bipush X101.here hx rfl (hb hby d17_12) ?_
    exact k
  obtain ⟨cl105, Ar105, q105, S105, M105, H105, G105⟩ := id f104
  have hin105 : ¬ ((0 : Int32) < 0 ∨ cl105.slots.size ≤ ((0 : Int32)).toNatClampNeg) := inb_of S105 ⟨by decide, by decide⟩
  obtain ⟨T105, h105, X105, e105, W105, st105⟩ := stC X101 hx hZ e101 Ar105 (j := (0 : Int32)) hin105 (g := (mkF m 14 #[.val (.int (31 : Int32))] [(.int (65 : Int32)), (.int (0 : Int32)), (.ref b101), (.ref b101)])) rfl rfl (hb hby d17_14)
  have fa105 := Arf.set (v := .int (nar .char (65 : Int32))) Ar105 q105 S105 M105 H105 G105 (fits_nar_char (65 : Int32)) W105
  have f106 := Nat.le_trans f102 (Keep.of_wr W105).1
  have f107 := f103.wr W105 (Or.inr gh101)
  have N105 := Fr.snoc X105 N0 gn101
  refine EndsQ.go st105 ?_
  show EndsQ _ _ _ _ _ _ _ (T105.setTop (mkF m 15 #[.val (.int (31 : Int32))] [(.ref b101)]))
  refine EndsQ.go (b := T105.setTop (mkF m 19 #[.val (.int (31 : Int32))] [(.int (90 : Int32)), (.int (1 : Int32)), (.ref b101), (.ref b101)])) (fun t k => ?_) ?_
  · show Steps p.tables e below (T105.setTop (mkF m 15 #[.val (.int (31 : Int32))] [(.ref b101)])) _
    refine XS.dup X105.here hx rfl (hb hby d17_15) rfl rfl ?_
    refine XS.iconst X105.here hx rfl (hb hby d17_16) ?_
    show Steps p.tables e below (T105.setTop (mkF m 17 #[.val (.int (31 : Int32))] [(.int (1 : Int32)), (.ref b101), (.ref b101)])) _
    refine XS.bipush X105.here hx rfl (hb hby d17_17) ?_
    exact k
  obtain ⟨cl108, Ar108, q108, S108, M108, H108, G108⟩ := id fa105
  have hin108 : ¬ ((1 : Int32) < 0 ∨ cl108.slots.size ≤ ((1 : Int32)).toNatClampNeg) := inb_of S108 ⟨by decide, by decide⟩
  obtain ⟨T108, h108, X108, e108, W108, st108⟩ := stC X105 hx hZ e105 Ar108 (j := (1 : Int32)) hin108 (g := (mkF m 19 #[.val (.int (31 : Int32))] [(.int (90 : Int32)), (.int (1 : Int32)), (.ref b101), (.ref b101)])) rfl rfl (hb hby d17_19)
  have fa108 := Arf.set (v := .int (nar .char (90 : Int32))) Ar108 q108 S108 M108 H108 G108 (fits_nar_char (90 : Int32)) W108
  have f109 := Nat.le_trans f106 (Keep.of_wr W108).1
  have f110 := f107.wr W108 (Or.inr gh101)
  have N108 := Fr.snoc X108 N105 gn101
  refine EndsQ.go st108 ?_
  show EndsQ _ _ _ _ _ _ _ (T108.setTop (mkF m 20 #[.val (.int (31 : Int32))] [(.ref b101)]))
  refine EndsQ.go (b := T108.setTop (mkF m 24 #[.val (.int (31 : Int32))] [(.int (97 : Int32)), (.int (2 : Int32)), (.ref b101), (.ref b101)])) (fun t k => ?_) ?_
  · show Steps p.tables e below (T108.setTop (mkF m 20 #[.val (.int (31 : Int32))] [(.ref b101)])) _
    refine XS.dup X108.here hx rfl (hb hby d17_20) rfl rfl ?_
    refine XS.iconst X108.here hx rfl (hb hby d17_21) ?_
    refine XS.bipush X108.here hx rfl (hb hby d17_22) ?_
    show Steps p.tables e below (T108.setTop (mkF m 24 #[.val (.int (31 : Int32))] [(.int (97 : Int32)), (.int (2 : Int32)), (.ref b101), (.ref b101)])) _
    exact k
  obtain ⟨cl111, Ar111, q111, S111, M111, H111, G111⟩ := id fa108
  have hin111 : ¬ ((2 : Int32) < 0 ∨ cl111.slots.size ≤ ((2 : Int32)).toNatClampNeg) := inb_of S111 ⟨by decide, by decide⟩
  obtain ⟨T111, h111, X111, e111, W111, st111⟩ := stC X108 hx hZ e108 Ar111 (j := (2 : Int32)) hin111 (g := (mkF m 24 #[.val (.int (31 : Int32))] [(.int (97 : Int32)), (.int (2 : Int32)), (.ref b101), (.ref b101)])) rfl rfl (hb hby d17_24)
  have fa111 := Arf.set (v := .int (nar .char (97 : Int32))) Ar111 q111 S111 M111 H111 G111 (fits_nar_char (97 : Int32)) W111
  have f112 := Nat.le_trans f109 (Keep.of_wr W111).1
  have f113 := f110.wr W111 (Or.inr gh101)
  have N111 := Fr.snoc X111 N108 gn101
  refine EndsQ.go st111 ?_
  show EndsQ _ _ _ _ _ _ _ (T111.setTop (mkF m 25 #[.val (.int (31 : Int32))] [(.ref b101)]))
  refine EndsQ.go (b := T111.setTop (mkF m 29 #[.val (.int (31 : Int32))] [(.int (122 : Int32)), (.int (3 : Int32)), (.ref b101), (.ref b101)])) (fun t k => ?_) ?_
  · show Steps p.tables e below (T111.setTop (mkF m 25 #[.val (.int (31 : Int32))] [(.ref b101)])) _
    refine XS.dup X111.here hx rfl (hb hby d17_25) rfl rfl ?_
    refine XS.iconst X111.here hx rfl (hb hby d17_26) ?_
    refine XS.bipush X111.here hx rfl (hb hby d17_27) ?_
    exact k
  obtain ⟨cl114, Ar114, q114, S114, M114, H114, G114⟩ := id fa111
  have hin114 : ¬ ((3 : Int32) < 0 ∨ cl114.slots.size ≤ ((3 : Int32)).toNatClampNeg) := inb_of S114 ⟨by decide, by decide⟩
  obtain ⟨T114, h114, X114, e114, W114, st114⟩ := stC X111 hx hZ e111 Ar114 (j := (3 : Int32)) hin114 (g := (mkF m 29 #[.val (.int (31 : Int32))] [(.int (122 : Int32)), (.int (3 : Int32)), (.ref b101), (.ref b101)])) rfl rfl (hb hby d17_29)
  have fa114 := Arf.set (v := .int (nar .char (122 : Int32))) Ar114 q114 S114 M114 H114 G114 (fits_nar_char (122 : Int32)) W114
  have f115 := Nat.le_trans f112 (Keep.of_wr W114).1
  have f116 := f113.wr W114 (Or.inr gh101)
  have N114 := Fr.snoc X114 N111 gn101
  refine EndsQ.go st114 ?_
  show EndsQ _ _ _ _ _ _ _ (T114.setTop (mkF m 30 #[.val (.int (31 : Int32))] [(.ref b101)]))
  refine EndsQ.go (b := T114.setTop (mkF m 34 #[.val (.int (31 : Int32))] [(.int (48 : Int32)), (.int (4 : Int32)), (.ref b101), (.ref b101)])) (fun t k => ?_) ?_
  · show Steps p.tables e below (T114.setTop (mkF m 30 #[.val (.int (31 : Int32))] [(.ref b101)])) _
    refine XS.dup X114.here hx rfl (hb hby d17_30) rfl rfl ?_
    show Steps p.tables e below (T114.setTop (mkF m 31 #[.val (.int (31 : Int32))] [(.ref b101), (.ref b101)])) _
    refine XS.iconst X114.here hx rfl (hb hby d17_31) ?_
    refine XS.bipush X114.here hx rfl (hb hby d17_32) ?_
    exact k
  obtain ⟨cl117, Ar117, q117, S117, M117, H117, G117⟩ := id fa114
  have hin117 : ¬ ((4 : Int32) < 0 ∨ cl117.slots.size ≤ ((4 : Int32)).toNatClampNeg) := inb_of S117 ⟨by decide, by decide⟩
  obtain ⟨T117, h117, X117, e117, W117, st117⟩ := stC X114 hx hZ e114 Ar117 (j := (4 : Int32)) hin117 (g := (mkF m 34 #[.val (.int (31 : Int32))] [(.int (48 : Int32)), (.int (4 : Int32)), (.ref b101), (.ref b101)])) rfl rfl (hb hby d17_34)
  have fa117 := Arf.set (v := .int (nar .char (48 : Int32))) Ar117 q117 S117 M117 H117 G117 (fits_nar_char (48 : Int32)) W117
  have f118 := Nat.le_trans f115 (Keep.of_wr W117).1
  have f119 := f116.wr W117 (Or.inr gh101)
  have N117 := Fr.snoc X117 N114 gn101
  refine EndsQ.go st117 ?_
  show EndsQ _ _ _ _ _ _ _ (T117.setTop (mkF m 35 #[.val (.int (31 : Int32))] [(.ref b101)]))
  refine EndsQ.go (b := T117.setTop (mkF m 39 #[.val (.int (31 : Int32))] [(.int (57 : Int32)), (.int (5 : Int32)), (.ref b101), (.ref b101)])) (fun t k => ?_) ?_
  · show Steps p.tables e below (T117.setTop (mkF m 35 #[.val (.int (31 : Int32))] [(.ref b101)])) _
    refine XS.dup X117.here hx rfl (hb hby d17_35) rfl rfl ?_
    refine XS.iconst X117.here hx rfl (hb hby d17_36) ?_
    show Steps p.tables e below (T117.setTop (mkF m 37 #[.val (.int (31 : Int32))] [(.int (5 : Int32)), (.ref b101), (.ref b101)])) _
    refine XS.bipush X117.here hx rfl (hb hby d17_37) ?_
    exact k
  obtain ⟨cl120, Ar120, q120, S120, M120, H120, G120⟩ := id fa117
  have hin120 : ¬ ((5 : Int32) < 0 ∨ cl120.slots.size ≤ ((5 : Int32)).toNatClampNeg) := inb_of S120 ⟨by decide, by decide⟩
  obtain ⟨T120, h120, X120, e120, W120, st120⟩ := stC X117 hx hZ e117 Ar120 (j := (5 : Int32)) hin120 (g := (mkF m 39 #[.val (.int (31 : Int32))] [(.int (57 : Int32)), (.int (5 : Int32)), (.ref b101), (.ref b101)])) rfl rfl (hb hby d17_39)
  have fa120 := Arf.set (v := .int (nar .char (57 : Int32))) Ar120 q120 S120 M120 H120 G120 (fits_nar_char (57 : Int32)) W120
  have f121 := Nat.le_trans f118 (Keep.of_wr W120).1
  have f122 := f119.wr W120 (Or.inr gh101)
  have N120 := Fr.snoc X120 N117 gn101
  refine EndsQ.go st120 ?_
  show EndsQ _ _ _ _ _ _ _ (T120.setTop (mkF m 40 #[.val (.int (31 : Int32))] [(.ref b101)]))
  refine EndsQ.go (b := T120.setTop (mkF m 45 #[.val (.int (31 : Int32))] [(.int (45 : Int32)), (.int (6 : Int32)), (.ref b101), (.ref b101)])) (fun t k => ?_) ?_
  · show Steps p.tables e below (T120.setTop (mkF m 40 #[.val (.int (31 : Int32))] [(.ref b101)])) _
    refine XS.dup X120.here hx rfl (hb hby d17_40) rfl rfl ?_
    refine XS.bipush X120.here hx rfl (hb hby d17_41) ?_
    refine XS.bipush X120.here hx rfl (hb hby d17_43) ?_
    show Steps p.tables e below (T120.setTop (mkF m 45 #[.val (.int (31 : Int32))] [(.int (45 : Int32)), (.int (6 : Int32)), (.ref b101), (.ref b101)])) _
    exact k
  obtain ⟨cl123, Ar123, q123, S123, M123, H123, G123⟩ := id fa120
  have hin123 : ¬ ((6 : Int32) < 0 ∨ cl123.slots.size ≤ ((6 : Int32)).toNatClampNeg) := inb_of S123 ⟨by decide, by decide⟩
  obtain ⟨T123, h123, X123, e123, W123, st123⟩ := stC X120 hx hZ e120 Ar123 (j := (6 : Int32)) hin123 (g := (mkF m 45 #[.val (.int (31 : Int32))] [(.int (45 : Int32)), (.int (6 : Int32)), (.ref b101), (.ref b101)])) rfl rfl (hb hby d17_45)
  have fa123 := Arf.set (v := .int (nar .char (45 : Int32))) Ar123 q123 S123 M123 H123 G123 (fits_nar_char (45 : Int32)) W123
  have f124 := Nat.le_trans f121 (Keep.of_wr W123).1
  have f125 := f122.wr W123 (Or.inr gh101)
  have N123 := Fr.snoc X123 N120 gn101
  refine EndsQ.go st123 ?_
  show EndsQ _ _ _ _ _ _ _ (T123.setTop (mkF m 46 #[.val (.int (31 : Int32))] [(.ref b101)]))
  refine EndsQ.go (b := T123.setTop (mkF m 51 #[.val (.int (31 : Int32))] [(.int (65 : Int32)), (.int (7 : Int32)), (.ref b101), (.ref b101)])) (fun t k => ?_) ?_
  · show Steps p.tables e below (T123.setTop (mkF m 46 #[.val (.int (31 : Int32))] [(.ref b101)])) _
    refine XS.dup X123.here hx rfl (hb hby d17_46) rfl rfl ?_
    refine XS.bipush X123.here hx rfl (hb hby d17_47) ?_
    refine XS.bipush X123.here hx rfl (hb hby d17_49) ?_
    exact k
  obtain ⟨cl126, Ar126, q126, S126, M126, H126, G126⟩ := id fa123
  have hin126 : ¬ ((7 : Int32) < 0 ∨ cl126.slots.size ≤ ((7 : Int32)).toNatClampNeg) := inb_of S126 ⟨by decide, by decide⟩
  obtain ⟨T126, h126, X126, e126, W126, st126⟩ := stC X123 hx hZ e123 Ar126 (j := (7 : Int32)) hin126 (g := (mkF m 51 #[.val (.int (31 : Int32))] [(.int (65 : Int32)), (.int (7 : Int32)), (.ref b101), (.ref b101)])) rfl rfl (hb hby d17_51)
  have fa126 := Arf.set (v := .int (nar .char (65 : Int32))) Ar126 q126 S126 M126 H126 G126 (fits_nar_char (65 : Int32)) W126
  have f127 := Nat.le_trans f124 (Keep.of_wr W126).1
  have f128 := f125.wr W126 (Or.inr gh101)
  have N126 := Fr.snoc X126 N123 gn101
  refine EndsQ.go st126 ?_
  show EndsQ _ _ _ _ _ _ _ (T126.setTop (mkF m 52 #[.val (.int (31 : Int32))] [(.ref b101)]))
  refine EndsQ.go (b := T126.setTop (mkF m 57 #[.val (.int (31 : Int32))] [(.int (90 : Int32)), (.int (8 : Int32)), (.ref b101), (.ref b101)])) (fun t k => ?_) ?_
  · show Steps p.tables e below (T126.setTop (mkF m 52 #[.val (.int (31 : Int32))] [(.ref b101)])) _
    refine XS.dup X126.here hx rfl (hb hby d17_52) rfl rfl ?_
    show Steps p.tables e below (T126.setTop (mkF m 53 #[.val (.int (31 : Int32))] [(.ref b101), (.ref b101)])) _
    refine XS.bipush X126.here hx rfl (hb hby d17_53) ?_
    refine XS.bipush X126.here hx rfl (hb hby d17_55) ?_
    exact k
  obtain ⟨cl129, Ar129, q129, S129, M129, H129, G129⟩ := id fa126
  have hin129 : ¬ ((8 : Int32) < 0 ∨ cl129.slots.size ≤ ((8 : Int32)).toNatClampNeg) := inb_of S129 ⟨by decide, by decide⟩
  obtain ⟨T129, h129, X129, e129, W129, st129⟩ := stC X126 hx hZ e126 Ar129 (j := (8 : Int32)) hin129 (g := (mkF m 57 #[.val (.int (31 : Int32))] [(.int (90 : Int32)), (.int (8 : Int32)), (.ref b101), (.ref b101)])) rfl rfl (hb hby d17_57)
  have fa129 := Arf.set (v := .int (nar .char (90 : Int32))) Ar129 q129 S129 M129 H129 G129 (fits_nar_char (90 : Int32)) W129
  have f130 := Nat.le_trans f127 (Keep.of_wr W129).1
  have f131 := f128.wr W129 (Or.inr gh101)
  have N129 := Fr.snoc X129 N126 gn101
  refine EndsQ.go st129 ?_
  show EndsQ _ _ _ _ _ _ _ (T129.setTop (mkF m 58 #[.val (.int (31 : Int32))] [(.ref b101)]))
  refine EndsQ.go (b := T129.setTop (mkF m 63 #[.val (.int (31 : Int32))] [(.int (97 : Int32)), (.int (9 : Int32)), (.ref b101), (.ref b101)])) (fun t k => ?_) ?_
  · show Steps p.tables e below (T129.setTop (mkF m 58 #[.val (.int (31 : Int32))] [(.ref b101)])) _
    refine XS.dup X129.here hx rfl (hb hby d17_58) rfl rfl ?_
    refine XS.bipush X129.here hx rfl (hb hby d17_59) ?_
    show Steps p.tables e below (T129.setTop (mkF m 61 #[.val (.int (31 : Int32))] [(.int (9 : Int32)), (.ref b101), (.ref b101)])) _
    refine XS.bipush X129.here hx rfl (hb hby d17_61) ?_
    exact k
  obtain ⟨cl132, Ar132, q132, S132, M132, H132, G132⟩ := id fa129
  have hin132 : ¬ ((9 : Int32) < 0 ∨ cl132.slots.size ≤ ((9 : Int32)).toNatClampNeg) := inb_of S132 ⟨by decide, by decide⟩
  obtain ⟨T132, h132, X132, e132, W132, st132⟩ := stC X129 hx hZ e129 Ar132 (j := (9 : Int32)) hin132 (g := (mkF m 63 #[.val (.int (31 : Int32))] [(.int (97 : Int32)), (.int (9 : Int32)), (.ref b101), (.ref b101)])) rfl rfl (hb hby d17_63)
  have fa132 := Arf.set (v := .int (nar .char (97 : Int32))) Ar132 q132 S132 M132 H132 G132 (fits_nar_char (97 : Int32)) W132
  have f133 := Nat.le_trans f130 (Keep.of_wr W132).1
  have f134 := f131.wr W132 (Or.inr gh101)
  have N132 := Fr.snoc X132 N129 gn101
  refine EndsQ.go st132 ?_
  show EndsQ _ _ _ _ _ _ _ (T132.setTop (mkF m 64 #[.val (.int (31 : Int32))] [(.ref b101)]))
  refine EndsQ.go (b := T132.setTop (mkF m 69 #[.val (.int (31 : Int32))] [(.int (122 : Int32)), (.int (10 : Int32)), (.ref b101), (.ref b101)])) (fun t k => ?_) ?_
  · show Steps p.tables e below (T132.setTop (mkF m 64 #[.val (.int (31 : Int32))] [(.ref b101)])) _
    refine XS.dup X132.here hx rfl (hb hby d17_64) rfl rfl ?_
    refine XS.bipush X132.here hx rfl (hb hby d17_65) ?_
    refine XS.bipush X132.here hx rfl (hb hby d17_67) ?_
    show Steps p.tables e below (T132.setTop (mkF m 69 #[.val (.int (31 : Int32))] [(.int (122 : Int32)), (.int (10 : Int32)), (.ref b101), (.ref b101)])) _
    exact k
  obtain ⟨cl135, Ar135, q135, S135, M135, H135, G135⟩ := id fa132
  have hin135 : ¬ ((10 : Int32) < 0 ∨ cl135.slots.size ≤ ((10 : Int32)).toNatClampNeg) := inb_of S135 ⟨by decide, by decide⟩
  obtain ⟨T135, h135, X135, e135, W135, st135⟩ := stC X132 hx hZ e132 Ar135 (j := (10 : Int32)) hin135 (g := (mkF m 69 #[.val (.int (31 : Int32))] [(.int (122 : Int32)), (.int (10 : Int32)), (.ref b101), (.ref b101)])) rfl rfl (hb hby d17_69)
  have fa135 := Arf.set (v := .int (nar .char (122 : Int32))) Ar135 q135 S135 M135 H135 G135 (fits_nar_char (122 : Int32)) W135
  have f136 := Nat.le_trans f133 (Keep.of_wr W135).1
  have f137 := f134.wr W135 (Or.inr gh101)
  have N135 := Fr.snoc X135 N132 gn101
  refine EndsQ.go st135 ?_
  show EndsQ _ _ _ _ _ _ _ (T135.setTop (mkF m 70 #[.val (.int (31 : Int32))] [(.ref b101)]))
  refine EndsQ.go (b := T135.setTop (mkF m 75 #[.val (.int (31 : Int32))] [(.int (48 : Int32)), (.int (11 : Int32)), (.ref b101), (.ref b101)])) (fun t k => ?_) ?_
  · show Steps p.tables e below (T135.setTop (mkF m 70 #[.val (.int (31 : Int32))] [(.ref b101)])) _
    refine XS.dup X135.here hx rfl (hb hby d17_70) rfl rfl ?_
    refine XS.bipush X135.here hx rfl (hb hby d17_71) ?_
    refine XS.bipush X135.here hx rfl (hb hby d17_73) ?_
    exact k
  obtain ⟨cl138, Ar138, q138, S138, M138, H138, G138⟩ := id fa135
  have hin138 : ¬ ((11 : Int32) < 0 ∨ cl138.slots.size ≤ ((11 : Int32)).toNatClampNeg) := inb_of S138 ⟨by decide, by decide⟩
  obtain ⟨T138, h138, X138, e138, W138, st138⟩ := stC X135 hx hZ e135 Ar138 (j := (11 : Int32)) hin138 (g := (mkF m 75 #[.val (.int (31 : Int32))] [(.int (48 : Int32)), (.int (11 : Int32)), (.ref b101), (.ref b101)])) rfl rfl (hb hby d17_75)
  have fa138 := Arf.set (v := .int (nar .char (48 : Int32))) Ar138 q138 S138 M138 H138 G138 (fits_nar_char (48 : Int32)) W138
  have f139 := Nat.le_trans f136 (Keep.of_wr W138).1
  have f140 := f137.wr W138 (Or.inr gh101)
  have N138 := Fr.snoc X138 N135 gn101
  refine EndsQ.go st138 ?_
  show EndsQ _ _ _ _ _ _ _ (T138.setTop (mkF m 76 #[.val (.int (31 : Int32))] [(.ref b101)]))
  refine EndsQ.go (b := T138.setTop (mkF m 81 #[.val (.int (31 : Int32))] [(.int (57 : Int32)), (.int (12 : Int32)), (.ref b101), (.ref b101)])) (fun t k => ?_) ?_
  · show Steps p.tables e below (T138.setTop (mkF m 76 #[.val (.int (31 : Int32))] [(.ref b101)])) _
    refine XS.dup X138.here hx rfl (hb hby d17_76) rfl rfl ?_
    show Steps p.tables e below (T138.setTop (mkF m 77 #[.val (.int (31 : Int32))] [(.ref b101), (.ref b101)])) _
    refine XS.bipush X138.here hx rfl (hb hby d17_77) ?_
    refine XS.bipush X138.here hx rfl (hb hby d17_79) ?_
    exact k
  obtain ⟨cl141, Ar141, q141, S141, M141, H141, G141⟩ := id fa138
  have hin141 : ¬ ((12 : Int32) < 0 ∨ cl141.slots.size ≤ ((12 : Int32)).toNatClampNeg) := inb_of S141 ⟨by decide, by decide⟩
  obtain ⟨T141, h141, X141, e141, W141, st141⟩ := stC X138 hx hZ e138 Ar141 (j := (12 : Int32)) hin141 (g := (mkF m 81 #[.val (.int (31 : Int32))] [(.int (57 : Int32)), (.int (12 : Int32)), (.ref b101), (.ref b101)])) rfl rfl (hb hby d17_81)
  have fa141 := Arf.set (v := .int (nar .char (57 : Int32))) Ar141 q141 S141 M141 H141 G141 (fits_nar_char (57 : Int32)) W141
  have f142 := Nat.le_trans f139 (Keep.of_wr W141).1
  have f143 := f140.wr W141 (Or.inr gh101)
  have N141 := Fr.snoc X141 N138 gn101
  refine EndsQ.go st141 ?_
  show EndsQ _ _ _ _ _ _ _ (T141.setTop (mkF m 82 #[.val (.int (31 : Int32))] [(.ref b101)]))
  refine EndsQ.go (b := T141.setTop (mkF m 87 #[.val (.int (31 : Int32))] [(.int (45 : Int32)), (.int (13 : Int32)), (.ref b101), (.ref b101)])) (fun t k => ?_) ?_
  · show Steps p.tables e below (T141.setTop (mkF m 82 #[.val (.int (31 : Int32))] [(.ref b101)])) _
    refine XS.dup X141.here hx rfl (hb hby d17_82) rfl rfl ?_
    refine XS.bipush X141.here hx rfl (hb hby d17_83) ?_
    show Steps p.tables e below (T141.setTop (mkF m 85 #[.val (.int (31 : Int32))] [(.int (13 : Int32)), (.ref b101), (.ref b101)])) _
    refine XS.bipush X141.here hx rfl (hb hby d17_85) ?_
    exact k
  obtain ⟨cl144, Ar144, q144, S144, M144, H144, G144⟩ := id fa141
  have hin144 : ¬ ((13 : Int32) < 0 ∨ cl144.slots.size ≤ ((13 : Int32)).toNatClampNeg) := inb_of S144 ⟨by decide, by decide⟩
  obtain ⟨T144, h144, X144, e144, W144, st144⟩ := stC X141 hx hZ e141 Ar144 (j := (13 : Int32)) hin144 (g := (mkF m 87 #[.val (.int (31 : Int32))] [(.int (45 : Int32)), (.int (13 : Int32)), (.ref b101), (.ref b101)])) rfl rfl (hb hby d17_87)
  have fa144 := Arf.set (v := .int (nar .char (45 : Int32))) Ar144 q144 S144 M144 H144 G144 (fits_nar_char (45 : Int32)) W144
  have f145 := Nat.le_trans f142 (Keep.of_wr W144).1
  have f146 := f143.wr W144 (Or.inr gh101)
  have N144 := Fr.snoc X144 N141 gn101
  refine EndsQ.go st144 ?_
  show EndsQ _ _ _ _ _ _ _ (T144.setTop (mkF m 88 #[.val (.int (31 : Int32))] [(.ref b101)]))
  refine EndsQ.go (b := T144.setTop (mkF m 93 #[.val (.int (31 : Int32))] [(.int (65 : Int32)), (.int (14 : Int32)), (.ref b101), (.ref b101)])) (fun t k => ?_) ?_
  · show Steps p.tables e below (T144.setTop (mkF m 88 #[.val (.int (31 : Int32))] [(.ref b101)])) _
    refine XS.dup X144.here hx rfl (hb hby d17_88) rfl rfl ?_
    refine XS.bipush X144.here hx rfl (hb hby d17_89) ?_
    refine XS.bipush X144.here hx rfl (hb hby d17_91) ?_
    show Steps p.tables e below (T144.setTop (mkF m 93 #[.val (.int (31 : Int32))] [(.int (65 : Int32)), (.int (14 : Int32)), (.ref b101), (.ref b101)])) _
    exact k
  obtain ⟨cl147, Ar147, q147, S147, M147, H147, G147⟩ := id fa144
  have hin147 : ¬ ((14 : Int32) < 0 ∨ cl147.slots.size ≤ ((14 : Int32)).toNatClampNeg) := inb_of S147 ⟨by decide, by decide⟩
  obtain ⟨T147, h147, X147, e147, W147, st147⟩ := stC X144 hx hZ e144 Ar147 (j := (14 : Int32)) hin147 (g := (mkF m 93 #[.val (.int (31 : Int32))] [(.int (65 : Int32)), (.int (14 : Int32)), (.ref b101), (.ref b101)])) rfl rfl (hb hby d17_93)
  have fa147 := Arf.set (v := .int (nar .char (65 : Int32))) Ar147 q147 S147 M147 H147 G147 (fits_nar_char (65 : Int32)) W147
  have f148 := Nat.le_trans f145 (Keep.of_wr W147).1
  have f149 := f146.wr W147 (Or.inr gh101)
  have N147 := Fr.snoc X147 N144 gn101
  refine EndsQ.go st147 ?_
  show EndsQ _ _ _ _ _ _ _ (T147.setTop (mkF m 94 #[.val (.int (31 : Int32))] [(.ref b101)]))
  refine EndsQ.go (b := T147.setTop (mkF m 99 #[.val (.int (31 : Int32))] [(.int (90 : Int32)), (.int (15 : Int32)), (.ref b101), (.ref b101)])) (fun t k => ?_) ?_
  · show Steps p.tables e below (T147.setTop (mkF m 94 #[.val (.int (31 : Int32))] [(.ref b101)])) _
    refine XS.dup X147.here hx rfl (hb hby d17_94) rfl rfl ?_
    refine XS.bipush X147.here hx rfl (hb hby d17_95) ?_
    refine XS.bipush X147.here hx rfl (hb hby d17_97) ?_
    exact k
  obtain ⟨cl150, Ar150, q150, S150, M150, H150, G150⟩ := id fa147
  have hin150 : ¬ ((15 : Int32) < 0 ∨ cl150.slots.size ≤ ((15 : Int32)).toNatClampNeg) := inb_of S150 ⟨by decide, by decide⟩
  obtain ⟨T150, h150, X150, e150, W150, st150⟩ := stC X147 hx hZ e147 Ar150 (j := (15 : Int32)) hin150 (g := (mkF m 99 #[.val (.int (31 : Int32))] [(.int (90 : Int32)), (.int (15 : Int32)), (.ref b101), (.ref b101)])) rfl rfl (hb hby d17_99)
  have fa150 := Arf.set (v := .int (nar .char (90 : Int32))) Ar150 q150 S150 M150 H150 G150 (fits_nar_char (90 : Int32)) W150
  have f151 := Nat.le_trans f148 (Keep.of_wr W150).1
  have f152 := f149.wr W150 (Or.inr gh101)
  have N150 := Fr.snoc X150 N147 gn101
  refine EndsQ.go st150 ?_
  show EndsQ _ _ _ _ _ _ _ (T150.setTop (mkF m 100 #[.val (.int (31 : Int32))] [(.ref b101)]))
  refine EndsQ.go (b := T150.setTop (mkF m 105 #[.val (.int (31 : Int32))] [(.int (97 : Int32)), (.int (16 : Int32)), (.ref b101), (.ref b101)])) (fun t k => ?_) ?_
  · show Steps p.tables e below (T150.setTop (mkF m 100 #[.val (.int (31 : Int32))] [(.ref b101)])) _
    refine XS.dup X150.here hx rfl (hb hby d17_100) rfl rfl ?_
    show Steps p.tables e below (T150.setTop (mkF m 101 #[.val (.int (31 : Int32))] [(.ref b101), (.ref b101)])) _
    refine XS.bipush X150.here hx rfl (hb hby d17_101) ?_
    refine XS.bipush X150.here hx rfl (hb hby d17_103) ?_
    exact k
  obtain ⟨cl153, Ar153, q153, S153, M153, H153, G153⟩ := id fa150
  have hin153 : ¬ ((16 : Int32) < 0 ∨ cl153.slots.size ≤ ((16 : Int32)).toNatClampNeg) := inb_of S153 ⟨by decide, by decide⟩
  obtain ⟨T153, h153, X153, e153, W153, st153⟩ := stC X150 hx hZ e150 Ar153 (j := (16 : Int32)) hin153 (g := (mkF m 105 #[.val (.int (31 : Int32))] [(.int (97 : Int32)), (.int (16 : Int32)), (.ref b101), (.ref b101)])) rfl rfl (hb hby d17_105)
  have fa153 := Arf.set (v := .int (nar .char (97 : Int32))) Ar153 q153 S153 M153 H153 G153 (fits_nar_char (97 : Int32)) W153
  have f154 := Nat.le_trans f151 (Keep.of_wr W153).1
  have f155 := f152.wr W153 (Or.inr gh101)
  have N153 := Fr.snoc X153 N150 gn101
  refine EndsQ.go st153 ?_
  show EndsQ _ _ _ _ _ _ _ (T153.setTop (mkF m 106 #[.val (.int (31 : Int32))] [(.ref b101)]))
  refine EndsQ.go (b := T153.setTop (mkF m 111 #[.val (.int (31 : Int32))] [(.int (122 : Int32)), (.int (17 : Int32)), (.ref b101), (.ref b101)])) (fun t k => ?_) ?_
  · show Steps p.tables e below (T153.setTop (mkF m 106 #[.val (.int (31 : Int32))] [(.ref b101)])) _
    refine XS.dup X153.here hx rfl (hb hby d17_106) rfl rfl ?_
    refine XS.bipush X153.here hx rfl (hb hby d17_107) ?_
    show Steps p.tables e below (T153.setTop (mkF m 109 #[.val (.int (31 : Int32))] [(.int (17 : Int32)), (.ref b101), (.ref b101)])) _
    refine XS.bipush X153.here hx rfl (hb hby d17_109) ?_
    exact k
  obtain ⟨cl156, Ar156, q156, S156, M156, H156, G156⟩ := id fa153
  have hin156 : ¬ ((17 : Int32) < 0 ∨ cl156.slots.size ≤ ((17 : Int32)).toNatClampNeg) := inb_of S156 ⟨by decide, by decide⟩
  obtain ⟨T156, h156, X156, e156, W156, st156⟩ := stC X153 hx hZ e153 Ar156 (j := (17 : Int32)) hin156 (g := (mkF m 111 #[.val (.int (31 : Int32))] [(.int (122 : Int32)), (.int (17 : Int32)), (.ref b101), (.ref b101)])) rfl rfl (hb hby d17_111)
  have fa156 := Arf.set (v := .int (nar .char (122 : Int32))) Ar156 q156 S156 M156 H156 G156 (fits_nar_char (122 : Int32)) W156
  have f157 := Nat.le_trans f154 (Keep.of_wr W156).1
  have f158 := f155.wr W156 (Or.inr gh101)
  have N156 := Fr.snoc X156 N153 gn101
  refine EndsQ.go st156 ?_
  show EndsQ _ _ _ _ _ _ _ (T156.setTop (mkF m 112 #[.val (.int (31 : Int32))] [(.ref b101)]))
  refine EndsQ.go (b := T156.setTop (mkF m 117 #[.val (.int (31 : Int32))] [(.int (48 : Int32)), (.int (18 : Int32)), (.ref b101), (.ref b101)])) (fun t k => ?_) ?_
  · show Steps p.tables e below (T156.setTop (mkF m 112 #[.val (.int (31 : Int32))] [(.ref b101)])) _
    refine XS.dup X156.here hx rfl (hb hby d17_112) rfl rfl ?_
    refine XS.bipush X156.here hx rfl (hb hby d17_113) ?_
    refine XS.bipush X156.here hx rfl (hb hby d17_115) ?_
    show Steps p.tables e below (T156.setTop (mkF m 117 #[.val (.int (31 : Int32))] [(.int (48 : Int32)), (.int (18 : Int32)), (.ref b101), (.ref b101)])) _
    exact k
  obtain ⟨cl159, Ar159, q159, S159, M159, H159, G159⟩ := id fa156
  have hin159 : ¬ ((18 : Int32) < 0 ∨ cl159.slots.size ≤ ((18 : Int32)).toNatClampNeg) := inb_of S159 ⟨by decide, by decide⟩
  obtain ⟨T159, h159, X159, e159, W159, st159⟩ := stC X156 hx hZ e156 Ar159 (j := (18 : Int32)) hin159 (g := (mkF m 117 #[.val (.int (31 : Int32))] [(.int (48 : Int32)), (.int (18 : Int32)), (.ref b101), (.ref b101)])) rfl rfl (hb hby d17_117)
  have fa159 := Arf.set (v := .int (nar .char (48 : Int32))) Ar159 q159 S159 M159 H159 G159 (fits_nar_char (48 : Int32)) W159
  have f160 := Nat.le_trans f157 (Keep.of_wr W159).1
  have f161 := f158.wr W159 (Or.inr gh101)
  have N159 := Fr.snoc X159 N156 gn101
  refine EndsQ.go st159 ?_
  show EndsQ _ _ _ _ _ _ _ (T159.setTop (mkF m 118 #[.val (.int (31 : Int32))] [(.ref b101)]))
  refine EndsQ.go (b := T159.setTop (mkF m 123 #[.val (.int (31 : Int32))] [(.int (57 : Int32)), (.int (19 : Int32)), (.ref b101), (.ref b101)])) (fun t k => ?_) ?_
  · show Steps p.tables e below (T159.setTop (mkF m 118 #[.val (.int (31 : Int32))] [(.ref b101)])) _
    refine XS.dup X159.here hx rfl (hb hby d17_118) rfl rfl ?_
    refine XS.bipush X159.here hx rfl (hb hby d17_119) ?_
    refine XS.bipush X159.here hx rfl (hb hby d17_121) ?_
    exact k
  obtain ⟨cl162, Ar162, q162, S162, M162, H162, G162⟩ := id fa159
  have hin162 : ¬ ((19 : Int32) < 0 ∨ cl162.slots.size ≤ ((19 : Int32)).toNatClampNeg) := inb_of S162 ⟨by decide, by decide⟩
  obtain ⟨T162, h162, X162, e162, W162, st162⟩ := stC X159 hx hZ e159 Ar162 (j := (19 : Int32)) hin162 (g := (mkF m 123 #[.val (.int (31 : Int32))] [(.int (57 : Int32)), (.int (19 : Int32)), (.ref b101), (.ref b101)])) rfl rfl (hb hby d17_123)
  have fa162 := Arf.set (v := .int (nar .char (57 : Int32))) Ar162 q162 S162 M162 H162 G162 (fits_nar_char (57 : Int32)) W162
  have f163 := Nat.le_trans f160 (Keep.of_wr W162).1
  have f164 := f161.wr W162 (Or.inr gh101)
  have N162 := Fr.snoc X162 N159 gn101
  refine EndsQ.go st162 ?_
  show EndsQ _ _ _ _ _ _ _ (T162.setTop (mkF m 124 #[.val (.int (31 : Int32))] [(.ref b101)]))
  refine EndsQ.go (b := T162.setTop (mkF m 129 #[.val (.int (31 : Int32))] [(.int (45 : Int32)), (.int (20 : Int32)), (.ref b101), (.ref b101)])) (fun t k => ?_) ?_
  · show Steps p.tables e below (T162.setTop (mkF m 124 #[.val (.int (31 : Int32))] [(.ref b101)])) _
    refine XS.dup X162.here hx rfl (hb hby d17_124) rfl rfl ?_
    show Steps p.tables e below (T162.setTop (mkF m 125 #[.val (.int (31 : Int32))] [(.ref b101), (.ref b101)])) _
    refine XS.bipush X162.here hx rfl (hb hby d17_125) ?_
    refine XS.bipush X162.here hx rfl (hb hby d17_127) ?_
    exact k
  obtain ⟨cl165, Ar165, q165, S165, M165, H165, G165⟩ := id fa162
  have hin165 : ¬ ((20 : Int32) < 0 ∨ cl165.slots.size ≤ ((20 : Int32)).toNatClampNeg) := inb_of S165 ⟨by decide, by decide⟩
  obtain ⟨T165, h165, X165, e165, W165, st165⟩ := stC X162 hx hZ e162 Ar165 (j := (20 : Int32)) hin165 (g := (mkF m 129 #[.val (.int (31 : Int32))] [(.int (45 : Int32)), (.int (20 : Int32)), (.ref b101), (.ref b101)])) rfl rfl (hb hby d17_129)
  have fa165 := Arf.set (v := .int (nar .char (45 : Int32))) Ar165 q165 S165 M165 H165 G165 (fits_nar_char (45 : Int32)) W165
  have f166 := Nat.le_trans f163 (Keep.of_wr W165).1
  have f167 := f164.wr W165 (Or.inr gh101)
  have N165 := Fr.snoc X165 N162 gn101
  refine EndsQ.go st165 ?_
  show EndsQ _ _ _ _ _ _ _ (T165.setTop (mkF m 130 #[.val (.int (31 : Int32))] [(.ref b101)]))
  refine EndsQ.go (b := T165.setTop (mkF m 135 #[.val (.int (31 : Int32))] [(.int (65 : Int32)), (.int (21 : Int32)), (.ref b101), (.ref b101)])) (fun t k => ?_) ?_
  · show Steps p.tables e below (T165.setTop (mkF m 130 #[.val (.int (31 : Int32))] [(.ref b101)])) _
    refine XS.dup X165.here hx rfl (hb hby d17_130) rfl rfl ?_
    refine XS.bipush X165.here hx rfl (hb hby d17_131) ?_
    show Steps p.tables e below (T165.setTop (mkF m 133 #[.val (.int (31 : Int32))] [(.int (21 : Int32)), (.ref b101), (.ref b101)])) _
    refine XS.bipush X165.here hx rfl (hb hby d17_133) ?_
    exact k
  obtain ⟨cl168, Ar168, q168, S168, M168, H168, G168⟩ := id fa165
  have hin168 : ¬ ((21 : Int32) < 0 ∨ cl168.slots.size ≤ ((21 : Int32)).toNatClampNeg) := inb_of S168 ⟨by decide, by decide⟩
  obtain ⟨T168, h168, X168, e168, W168, st168⟩ := stC X165 hx hZ e165 Ar168 (j := (21 : Int32)) hin168 (g := (mkF m 135 #[.val (.int (31 : Int32))] [(.int (65 : Int32)), (.int (21 : Int32)), (.ref b101), (.ref b101)])) rfl rfl (hb hby d17_135)
  have fa168 := Arf.set (v := .int (nar .char (65 : Int32))) Ar168 q168 S168 M168 H168 G168 (fits_nar_char (65 : Int32)) W168
  have f169 := Nat.le_trans f166 (Keep.of_wr W168).1
  have f170 := f167.wr W168 (Or.inr gh101)
  have N168 := Fr.snoc X168 N165 gn101
  refine EndsQ.go st168 ?_
  show EndsQ _ _ _ _ _ _ _ (T168.setTop (mkF m 136 #[.val (.int (31 : Int32))] [(.ref b101)]))
  refine EndsQ.go (b := T168.setTop (mkF m 141 #[.val (.int (31 : Int32))] [(.int (90 : Int32)), (.int (22 : Int32)), (.ref b101), (.ref b101)])) (fun t k => ?_) ?_
  · show Steps p.tables e below (T168.setTop (mkF m 136 #[.val (.int (31 : Int32))] [(.ref b101)])) _
    refine XS.dup X168.here hx rfl (hb hby d17_136) rfl rfl ?_
    refine XS.bipush X168.here hx rfl (hb hby d17_137) ?_
    refine XS.bipush X168.here hx rfl (hb hby d17_139) ?_
    show Steps p.tables e below (T168.setTop (mkF m 141 #[.val (.int (31 : Int32))] [(.int (90 : Int32)), (.int (22 : Int32)), (.ref b101), (.ref b101)])) _
    exact k
  obtain ⟨cl171, Ar171, q171, S171, M171, H171, G171⟩ := id fa168
  have hin171 : ¬ ((22 : Int32) < 0 ∨ cl171.slots.size ≤ ((22 : Int32)).toNatClampNeg) := inb_of S171 ⟨by decide, by decide⟩
  obtain ⟨T171, h171, X171, e171, W171, st171⟩ := stC X168 hx hZ e168 Ar171 (j := (22 : Int32)) hin171 (g := (mkF m 141 #[.val (.int (31 : Int32))] [(.int (90 : Int32)), (.int (22 : Int32)), (.ref b101), (.ref b101)])) rfl rfl (hb hby d17_141)
  have fa171 := Arf.set (v := .int (nar .char (90 : Int32))) Ar171 q171 S171 M171 H171 G171 (fits_nar_char (90 : Int32)) W171
  have f172 := Nat.le_trans f169 (Keep.of_wr W171).1
  have f173 := f170.wr W171 (Or.inr gh101)
  have N171 := Fr.snoc X171 N168 gn101
  refine EndsQ.go st171 ?_
  show EndsQ _ _ _ _ _ _ _ (T171.setTop (mkF m 142 #[.val (.int (31 : Int32))] [(.ref b101)]))
  refine EndsQ.go (b := T171.setTop (mkF m 147 #[.val (.int (31 : Int32))] [(.int (97 : Int32)), (.int (23 : Int32)), (.ref b101), (.ref b101)])) (fun t k => ?_) ?_
  · show Steps p.tables e below (T171.setTop (mkF m 142 #[.val (.int (31 : Int32))] [(.ref b101)])) _
    refine XS.dup X171.here hx rfl (hb hby d17_142) rfl rfl ?_
    refine XS.bipush X171.here hx rfl (hb hby d17_143) ?_
    refine XS.bipush X171.here hx rfl (hb hby d17_145) ?_
    exact k
  obtain ⟨cl174, Ar174, q174, S174, M174, H174, G174⟩ := id fa171
  have hin174 : ¬ ((23 : Int32) < 0 ∨ cl174.slots.size ≤ ((23 : Int32)).toNatClampNeg) := inb_of S174 ⟨by decide, by decide⟩
  obtain ⟨T174, h174, X174, e174, W174, st174⟩ := stC X171 hx hZ e171 Ar174 (j := (23 : Int32)) hin174 (g := (mkF m 147 #[.val (.int (31 : Int32))] [(.int (97 : Int32)), (.int (23 : Int32)), (.ref b101), (.ref b101)])) rfl rfl (hb hby d17_147)
  have fa174 := Arf.set (v := .int (nar .char (97 : Int32))) Ar174 q174 S174 M174 H174 G174 (fits_nar_char (97 : Int32)) W174
  have f175 := Nat.le_trans f172 (Keep.of_wr W174).1
  have f176 := f173.wr W174 (Or.inr gh101)
  have N174 := Fr.snoc X174 N171 gn101
  refine EndsQ.go st174 ?_
  show EndsQ _ _ _ _ _ _ _ (T174.setTop (mkF m 148 #[.val (.int (31 : Int32))] [(.ref b101)]))
  refine EndsQ.go (b := T174.setTop (mkF m 153 #[.val (.int (31 : Int32))] [(.int (122 : Int32)), (.int (24 : Int32)), (.ref b101), (.ref b101)])) (fun t k => ?_) ?_
  · show Steps p.tables e below (T174.setTop (mkF m 148 #[.val (.int (31 : Int32))] [(.ref b101)])) _
    refine XS.dup X174.here hx rfl (hb hby d17_148) rfl rfl ?_
    show Steps p.tables e below (T174.setTop (mkF m 149 #[.val (.int (31 : Int32))] [(.ref b101), (.ref b101)])) _
    refine XS.bipush X174.here hx rfl (hb hby d17_149) ?_
    refine XS.bipush X174.here hx rfl (hb hby d17_151) ?_
    exact k
  obtain ⟨cl177, Ar177, q177, S177, M177, H177, G177⟩ := id fa174
  have hin177 : ¬ ((24 : Int32) < 0 ∨ cl177.slots.size ≤ ((24 : Int32)).toNatClampNeg) := inb_of S177 ⟨by decide, by decide⟩
  obtain ⟨T177, h177, X177, e177, W177, st177⟩ := stC X174 hx hZ e174 Ar177 (j := (24 : Int32)) hin177 (g := (mkF m 153 #[.val (.int (31 : Int32))] [(.int (122 : Int32)), (.int (24 : Int32)), (.ref b101), (.ref b101)])) rfl rfl (hb hby d17_153)
  have fa177 := Arf.set (v := .int (nar .char (122 : Int32))) Ar177 q177 S177 M177 H177 G177 (fits_nar_char (122 : Int32)) W177
  have f178 := Nat.le_trans f175 (Keep.of_wr W177).1
  have f179 := f176.wr W177 (Or.inr gh101)
  have N177 := Fr.snoc X177 N174 gn101
  refine EndsQ.go st177 ?_
  show EndsQ _ _ _ _ _ _ _ (T177.setTop (mkF m 154 #[.val (.int (31 : Int32))] [(.ref b101)]))
  refine EndsQ.go (b := T177.setTop (mkF m 159 #[.val (.int (31 : Int32))] [(.int (48 : Int32)), (.int (25 : Int32)), (.ref b101), (.ref b101)])) (fun t k => ?_) ?_
  · show Steps p.tables e below (T177.setTop (mkF m 154 #[.val (.int (31 : Int32))] [(.ref b101)])) _
    refine XS.dup X177.here hx rfl (hb hby d17_154) rfl rfl ?_
    refine XS.bipush X177.here hx rfl (hb hby d17_155) ?_
    show Steps p.tables e below (T177.setTop (mkF m 157 #[.val (.int (31 : Int32))] [(.int (25 : Int32)), (.ref b101), (.ref b101)])) _
    refine XS.bipush X177.here hx rfl (hb hby d17_157) ?_
    exact k
  obtain ⟨cl180, Ar180, q180, S180, M180, H180, G180⟩ := id fa177
  have hin180 : ¬ ((25 : Int32) < 0 ∨ cl180.slots.size ≤ ((25 : Int32)).toNatClampNeg) := inb_of S180 ⟨by decide, by decide⟩
  obtain ⟨T180, h180, X180, e180, W180, st180⟩ := stC X177 hx hZ e177 Ar180 (j := (25 : Int32)) hin180 (g := (mkF m 159 #[.val (.int (31 : Int32))] [(.int (48 : Int32)), (.int (25 : Int32)), (.ref b101), (.ref b101)])) rfl rfl (hb hby d17_159)
  have fa180 := Arf.set (v := .int (nar .char (48 : Int32))) Ar180 q180 S180 M180 H180 G180 (fits_nar_char (48 : Int32)) W180
  have f181 := Nat.le_trans f178 (Keep.of_wr W180).1
  have f182 := f179.wr W180 (Or.inr gh101)
  have N180 := Fr.snoc X180 N177 gn101
  refine EndsQ.go st180 ?_
  show EndsQ _ _ _ _ _ _ _ (T180.setTop (mkF m 160 #[.val (.int (31 : Int32))] [(.ref b101)]))
  refine EndsQ.go (b := T180.setTop (mkF m 165 #[.val (.int (31 : Int32))] [(.int (57 : Int32)), (.int (26 : Int32)), (.ref b101), (.ref b101)])) (fun t k => ?_) ?_
  · show Steps p.tables e below (T180.setTop (mkF m 160 #[.val (.int (31 : Int32))] [(.ref b101)])) _
    refine XS.dup X180.here hx rfl (hb hby d17_160) rfl rfl ?_
    refine XS.bipush X180.here hx rfl (hb hby d17_161) ?_
    refine XS.bipush X180.here hx rfl (hb hby d17_163) ?_
    show Steps p.tables e below (T180.setTop (mkF m 165 #[.val (.int (31 : Int32))] [(.int (57 : Int32)), (.int (26 : Int32)), (.ref b101), (.ref b101)])) _
    exact k
  obtain ⟨cl183, Ar183, q183, S183, M183, H183, G183⟩ := id fa180
  have hin183 : ¬ ((26 : Int32) < 0 ∨ cl183.slots.size ≤ ((26 : Int32)).toNatClampNeg) := inb_of S183 ⟨by decide, by decide⟩
  obtain ⟨T183, h183, X183, e183, W183, st183⟩ := stC X180 hx hZ e180 Ar183 (j := (26 : Int32)) hin183 (g := (mkF m 165 #[.val (.int (31 : Int32))] [(.int (57 : Int32)), (.int (26 : Int32)), (.ref b101), (.ref b101)])) rfl rfl (hb hby d17_165)
  have fa183 := Arf.set (v := .int (nar .char (57 : Int32))) Ar183 q183 S183 M183 H183 G183 (fits_nar_char (57 : Int32)) W183
  have f184 := Nat.le_trans f181 (Keep.of_wr W183).1
  have f185 := f182.wr W183 (Or.inr gh101)
  have N183 := Fr.snoc X183 N180 gn101
  refine EndsQ.go st183 ?_
  show EndsQ _ _ _ _ _ _ _ (T183.setTop (mkF m 166 #[.val (.int (31 : Int32))] [(.ref b101)]))
  refine EndsQ.go (b := T183.setTop (mkF m 171 #[.val (.int (31 : Int32))] [(.int (45 : Int32)), (.int (27 : Int32)), (.ref b101), (.ref b101)])) (fun t k => ?_) ?_
  · show Steps p.tables e below (T183.setTop (mkF m 166 #[.val (.int (31 : Int32))] [(.ref b101)])) _
    refine XS.dup X183.here hx rfl (hb hby d17_166) rfl rfl ?_
    refine XS.bipush X183.here hx rfl (hb hby d17_167) ?_
    refine XS.bipush X183.here hx rfl (hb hby d17_169) ?_
    exact k
  obtain ⟨cl186, Ar186, q186, S186, M186, H186, G186⟩ := id fa183
  have hin186 : ¬ ((27 : Int32) < 0 ∨ cl186.slots.size ≤ ((27 : Int32)).toNatClampNeg) := inb_of S186 ⟨by decide, by decide⟩
  obtain ⟨T186, h186, X186, e186, W186, st186⟩ := stC X183 hx hZ e183 Ar186 (j := (27 : Int32)) hin186 (g := (mkF m 171 #[.val (.int (31 : Int32))] [(.int (45 : Int32)), (.int (27 : Int32)), (.ref b101), (.ref b101)])) rfl rfl (hb hby d17_171)
  have fa186 := Arf.set (v := .int (nar .char (45 : Int32))) Ar186 q186 S186 M186 H186 G186 (fits_nar_char (45 : Int32)) W186
  have f187 := Nat.le_trans f184 (Keep.of_wr W186).1
  have f188 := f185.wr W186 (Or.inr gh101)
  have N186 := Fr.snoc X186 N183 gn101
  refine EndsQ.go st186 ?_
  show EndsQ _ _ _ _ _ _ _ (T186.setTop (mkF m 172 #[.val (.int (31 : Int32))] [(.ref b101)]))
  refine EndsQ.go (b := T186.setTop (mkF m 177 #[.val (.int (31 : Int32))] [(.int (65 : Int32)), (.int (28 : Int32)), (.ref b101), (.ref b101)])) (fun t k => ?_) ?_
  · show Steps p.tables e below (T186.setTop (mkF m 172 #[.val (.int (31 : Int32))] [(.ref b101)])) _
    refine XS.dup X186.here hx rfl (hb hby d17_172) rfl rfl ?_
    show Steps p.tables e below (T186.setTop (mkF m 173 #[.val (.int (31 : Int32))] [(.ref b101), (.ref b101)])) _
    refine XS.bipush X186.here hx rfl (hb hby d17_173) ?_
    refine XS.bipush X186.here hx rfl (hb hby d17_175) ?_
    exact k
  obtain ⟨cl189, Ar189, q189, S189, M189, H189, G189⟩ := id fa186
  have hin189 : ¬ ((28 : Int32) < 0 ∨ cl189.slots.size ≤ ((28 : Int32)).toNatClampNeg) := inb_of S189 ⟨by decide, by decide⟩
  obtain ⟨T189, h189, X189, e189, W189, st189⟩ := stC X186 hx hZ e186 Ar189 (j := (28 : Int32)) hin189 (g := (mkF m 177 #[.val (.int (31 : Int32))] [(.int (65 : Int32)), (.int (28 : Int32)), (.ref b101), (.ref b101)])) rfl rfl (hb hby d17_177)
  have fa189 := Arf.set (v := .int (nar .char (65 : Int32))) Ar189 q189 S189 M189 H189 G189 (fits_nar_char (65 : Int32)) W189
  have f190 := Nat.le_trans f187 (Keep.of_wr W189).1
  have f191 := f188.wr W189 (Or.inr gh101)
  have N189 := Fr.snoc X189 N186 gn101
  refine EndsQ.go st189 ?_
  show EndsQ _ _ _ _ _ _ _ (T189.setTop (mkF m 178 #[.val (.int (31 : Int32))] [(.ref b101)]))
  refine EndsQ.go (b := T189.setTop (mkF m 183 #[.val (.int (31 : Int32))] [(.int (90 : Int32)), (.int (29 : Int32)), (.ref b101), (.ref b101)])) (fun t k => ?_) ?_
  · show Steps p.tables e below (T189.setTop (mkF m 178 #[.val (.int (31 : Int32))] [(.ref b101)])) _
    refine XS.dup X189.here hx rfl (hb hby d17_178) rfl rfl ?_
    refine XS.bipush X189.here hx rfl (hb hby d17_179) ?_
    show Steps p.tables e below (T189.setTop (mkF m 181 #[.val (.int (31 : Int32))] [(.int (29 : Int32)), (.ref b101), (.ref b101)])) _
    refine XS.bipush X189.here hx rfl (hb hby d17_181) ?_
    exact k
  obtain ⟨cl192, Ar192, q192, S192, M192, H192, G192⟩ := id fa189
  have hin192 : ¬ ((29 : Int32) < 0 ∨ cl192.slots.size ≤ ((29 : Int32)).toNatClampNeg) := inb_of S192 ⟨by decide, by decide⟩
  obtain ⟨T192, h192, X192, e192, W192, st192⟩ := stC X189 hx hZ e189 Ar192 (j := (29 : Int32)) hin192 (g := (mkF m 183 #[.val (.int (31 : Int32))] [(.int (90 : Int32)), (.int (29 : Int32)), (.ref b101), (.ref b101)])) rfl rfl (hb hby d17_183)
  have fa192 := Arf.set (v := .int (nar .char (90 : Int32))) Ar192 q192 S192 M192 H192 G192 (fits_nar_char (90 : Int32)) W192
  have f193 := Nat.le_trans f190 (Keep.of_wr W192).1
  have f194 := f191.wr W192 (Or.inr gh101)
  have N192 := Fr.snoc X192 N189 gn101
  refine EndsQ.go st192 ?_
  show EndsQ _ _ _ _ _ _ _ (T192.setTop (mkF m 184 #[.val (.int (31 : Int32))] [(.ref b101)]))
  refine EndsQ.go (b := T192.setTop (mkF m 189 #[.val (.int (31 : Int32))] [(.int (97 : Int32)), (.int (30 : Int32)), (.ref b101), (.ref b101)])) (fun t k => ?_) ?_
  · show Steps p.tables e below (T192.setTop (mkF m 184 #[.val (.int (31 : Int32))] [(.ref b101)])) _
    refine XS.dup X192.here hx rfl (hb hby d17_184) rfl rfl ?_
    refine XS.bipush X192.here hx rfl (hb hby d17_185) ?_
    refine XS.bipush X192.here hx rfl (hb hby d17_187) ?_
    show Steps p.tables e below (T192.setTop (mkF m 189 #[.val (.int (31 : Int32))] [(.int (97 : Int32)), (.int (30 : Int32)), (.ref b101), (.ref b101)])) _
    exact k
  obtain ⟨cl195, Ar195, q195, S195, M195, H195, G195⟩ := id fa192
  have hin195 : ¬ ((30 : Int32) < 0 ∨ cl195.slots.size ≤ ((30 : Int32)).toNatClampNeg) := inb_of S195 ⟨by decide, by decide⟩
  obtain ⟨T195, h195, X195, e195, W195, st195⟩ := stC X192 hx hZ e192 Ar195 (j := (30 : Int32)) hin195 (g := (mkF m 189 #[.val (.int (31 : Int32))] [(.int (97 : Int32)), (.int (30 : Int32)), (.ref b101), (.ref b101)])) rfl rfl (hb hby d17_189)
  have fa195 := Arf.set (v := .int (nar .char (97 : Int32))) Ar195 q195 S195 M195 H195 G195 (fits_nar_char (97 : Int32)) W195
  have f196 := Nat.le_trans f193 (Keep.of_wr W195).1
  have f197 := f194.wr W195 (Or.inr gh101)
  have N195 := Fr.snoc X195 N192 gn101
  refine EndsQ.go st195 ?_
  show EndsQ _ _ _ _ _ _ _ (T195.setTop (mkF m 190 #[.val (.int (31 : Int32))] [(.ref b101)]))
  refine EndsQ.retA X195 hx Bd.notSynchronized (w := (.ref b101)) Bd.returns rfl rfl rfl (hb hby d17_190) (by decide) (by decide) ?_
  show QB31 Z h0 n0 (some (.ref b101)) T195.heap _
  rw [e195]
  refine ⟨b101, k101, rfl, N195, f197, gh101, fa195.congr (fun i hi => ?_)⟩
  match i, (show i < 31 from hi) with
  | 0, _ => rfl
  | 1, _ => rfl
  | 2, _ => rfl
  | 3, _ => rfl
  | 4, _ => rfl
  | 5, _ => rfl
  | 6, _ => rfl
  | 7, _ => rfl
  | 8, _ => rfl
  | 9, _ => rfl
  | 10, _ => rfl
  | 11, _ => rfl
  | 12, _ => rfl
  | 13, _ => rfl
  | 14, _ => rfl
  | 15, _ => rfl
  | 16, _ => rfl
  | 17, _ => rfl
  | 18, _ => rfl
  | 19, _ => rfl
  | 20, _ => rfl
  | 21, _ => rfl
  | 22, _ => rfl
  | 23, _ => rfl
  | 24, _ => rfl
  | 25, _ => rfl
  | 26, _ => rfl
  | 27, _ => rfl
  | 28, _ => rfl
  | 29, _ => rfl
  | 30, _ => rfl
  | q + 31, y => exact absurd y (by omega)
theorem ef_B33 (m : MethodId) (x0 : Int32) : entryFrame m #[(.int x0)] 1 = mkF m 0 #[.val (.int x0)] [] := by first | (simp [entryFrame, mkF, argsToLocals, Value.category]; done) | rfl
def QB33 (Z : State)  (h0 : Heap) (n0 : Nat) (v : Option Value) (h : Heap) (L : List Loc) : Prop := ∃ (b : Addr) (kb : ClassId), v = some (.ref b) ∧ Fr n0 L ∧ Keep h0 h [] ∧ h0.size ≤ b ∧ Arf Z h b kb .char (33 : Int32) (own_cv own_base)
set_option maxRecDepth 65536 in
set_option maxHeartbeats 40000000 in
theorem rmB33 (l : Launch) (Z : State) (a0 : Array Value) (hw : ∀ d ∈ tables_1, d.before a0 Z = true) (ws : List Jvm.Cond)  (h0 : Heap) (n0 : Nat) (Z0 : n0 ≤ h0.size) :
    MetFree l (⟨"com/example/lossfall/lossfall/model/CertificateClassIsValidNamePinLaw", "base", "(I)[C"⟩ : MethodName) (head1 (Jvm.Cond.code (⟨"com/example/lossfall/lossfall/model/CertificateClassIsValidNamePinLaw", "base", "(I)[C"⟩ : MethodName) method_4_code 1 (some (.array .char)) :: ws) ({ frames := 0, cells := 1, slots := 33, locals := 0 } : Room)) (fun a U => a = #[(.int (33 : Int32))] ∧ Z.Warmed39 U.vm ∧ U.heap = h0) (fun _ _ _ _ _ => True) (fun _ U o U' => ∃ v L, o = .returned v ∧ QB33 Z h0 n0 v U'.heap L ∧ FrameEnd U o U' L ({ frames := 0, cells := 1, slots := 33, locals := 0 } : Room).cells ({ frames := 0, cells := 1, slots := 33, locals := 0 } : Room).slots) := by
  refine MetFree.of_bodySF (plainFor_of_name pn_17) hisR ?_
  intro p e s m args below meth c s₁ Bd hml0 hP hK
  obtain ⟨rfl, hZ, hh⟩ := hP
  have hx := Bd.exec
  have hby := Bd.bytes
  have hml : c.maxLocals = 1 := hml0
  have hown : s.vm.findClass "com/example/lossfall/lossfall/model/CertificateClassIsValidNamePinLaw" = some m.cls := findClass_of_methodNamed Bd.named
  have hnm := (name_of_methodNamed Bd.named Bd.method).1
  have X0 : Stand p l e ({ frames := 0, cells := 1, slots := 33, locals := 0 } : Room) s m #[(.int (33 : Int32))] below meth c s₁ [] 0 0 := Stand.of_body Bd
  have e0 : s₁.heap = h0 := by rw [← hh, Bd.state]; rfl
  have N0 := Fr.nil n0
  show EndsQ p.tables e below s (fun v h L => QB33 Z h0 n0 v h L) ({ frames := 0, cells := 1, slots := 33, locals := 0 } : Room).cells ({ frames := 0, cells := 1, slots := 33, locals := 0 } : Room).slots _
  refine EndsQ.go (b := s₁.setTop (mkF m 0 #[.val (.int (33 : Int32))] [])) (fun t k => castTop (ef_B33 m (33 : Int32)) k) ?_
  have K0 : Keep h0 h0 [] := Keep.refl _ _
  refine EndsQ.go (b := s₁.setTop (mkF m 199 #[.val (.int (33 : Int32))] [(.int (33 : Int32))])) (fun t k => ?_) ?_
  · show Steps p.tables e below (s₁.setTop (mkF m 0 #[.val (.int (33 : Int32))] [])) _
    refine XS.iloadN X0.here hx rfl (hb hby d17_0) rfl ?_
    refine XS.bipush X0.here hx rfl (hb hby d17_1) ?_
    refine XS.icmpYes X0.here hx rfl (pc0 := 3) (pc' := 191) rfl (hb hby d17_3) rfl (feq (by decide)).2 (by decide) (by decide) ?_
    show Steps p.tables e below (s₁.setTop (mkF m 191 #[.val (.int (33 : Int32))] [])) _
    refine XS.iloadN X0.here hx rfl (hb hby d17_191) rfl ?_
    refine XS.bipush X0.here hx rfl (hb hby d17_192) ?_
    show Steps p.tables e below (s₁.setTop (mkF m 194 #[.val (.int (33 : Int32))] [(.int (33 : Int32)), (.int (33 : Int32))])) _
    refine XS.icmpNo X0.here hx rfl (hb hby d17_194) rfl (teq (by decide)).2 ?_
    show Steps p.tables e below (s₁.setTop (mkF m 197 #[.val (.int (33 : Int32))] [])) _
    refine XS.bipush X0.here hx rfl (hb hby d17_197) ?_
    exact k
  obtain ⟨T101, h101, k101, X101, e101, E101, A101, st101⟩ := newP X0 hx hZ (own_w hw 1 rfl) e0 (g := (mkF m 199 #[.val (.int (33 : Int32))] [(.int (33 : Int32))])) rfl (hb hby d17_199) rfl (by decide) (cap := 33) (by decide) (by decide) (by decide) (by decide)
  obtain ⟨b101, g101⟩ : ∃ z, z = h0.size := ⟨_, rfl⟩
  rw [← g101] at A101 st101
  have gn101 : n0 ≤ b101 := Nat.le_trans Z0 (Nat.le_of_eq g101.symm)
  have gh101 : h0.size ≤ b101 := Nat.le_trans K0.1 (Nat.le_of_eq g101.symm)
  have f102 := Nat.le_trans Z0 E101.1
  have f103 := K0.ext E101
  have f104 : Arf Z h101 b101 k101 .char (33 : Int32) (fun _ => .int (0 : Int32)) := Arf.new A101 (by decide)
  refine EndsQ.go st101 ?_
  show EndsQ _ _ _ _ _ _ _ (T101.setTop (mkF m 201 #[.val (.int (33 : Int32))] [(.ref b101)]))
  refine EndsQ.go (b := T101.setTop (mkF m 205 #[.val (.int (33 : Int32))] [(.int (65 : Int32)), (.int (0 : Int32)), (.ref b101), (.ref b101)])) (fun t k => ?_) ?_
  · show Steps p.tables e below (T101.setTop (mkF m 201 #[.val (.int (33 : Int32))] [(.ref b101)])) _
    refine XS.dup X101.here hx rfl (hb hby d17_201) rfl rfl ?_
    refine XS.iconst X101.here hx rfl (hb hby d17_202) ?_
    refine XS.bipush X101.here hx rfl (hb hby d17_203) ?_
    show Steps p.tables e below (T101.setTop (mkF m 205 #[.val (.int (33 : Int32))] [(.int (65 : Int32)), (.int (0 : Int32)), (.ref b101), (.ref b101)])) _
    exact k
  obtain ⟨cl105, Ar105, q105, S105, M105, H105, G105⟩ := id f104
  have hin105 : ¬ ((0 : Int32) < 0 ∨ cl105.slots.size ≤ ((0 : Int32)).toNatClampNeg) := inb_of S105 ⟨by decide, by decide⟩
  obtain ⟨T105, h105, X105, e105, W105, st105⟩ := stC X101 hx hZ e101 Ar105 (j := (0 : Int32)) hin105 (g := (mkF m 205 #[.val (.int (33 : Int32))] [(.int (65 : Int32)), (.int (0 : Int32)), (.ref b101), (.ref b101)])) rfl rfl (hb hby d17_205)
  have fa105 := Arf.set (v := .int (nar .char (65 : Int32))) Ar105 q105 S105 M105 H105 G105 (fits_nar_char (65 : Int32)) W105
  have f106 := Nat.le_trans f102 (Keep.of_wr W105).1
  have f107 := f103.wr W105 (Or.inr gh101)
  have N105 := Fr.snoc X105 N0 gn101
  refine EndsQ.go st105 ?_
  show EndsQ _ _ _ _ _ _ _ (T105.setTop (mkF m 206 #[.val (.int (33 : Int32))] [(.ref b101)]))
  refine EndsQ.go (b := T105.setTop (mkF m 210 #[.val (.int (33 : Int32))] [(.int (90 : Int32)), (.int (1 : Int32)), (.ref b101), (.ref b101)])) (fun t k => ?_) ?_
  · show Steps p.tables e below (T105.setTop (mkF m 206 #[.val (.int (33 : Int32))] [(.ref b101)])) _
    refine XS.dup X105.here hx rfl (hb hby d17_206) rfl rfl ?_
    refine XS.iconst X105.here hx rfl (hb hby d17_207) ?_
    refine XS.bipush X105.here hx rfl (hb hby d17_208) ?_
    exact k
  obtain ⟨cl108, Ar108, q108, S108, M108, H108, G108⟩ := id fa105
  have hin108 : ¬ ((1 : Int32) < 0 ∨ cl108.slots.size ≤ ((1 : Int32)).toNatClampNeg) := inb_of S108 ⟨by decide, by decide⟩
  obtain ⟨T108, h108, X108, e108, W108, st108⟩ := stC X105 hx hZ e105 Ar108 (j := (1 : Int32)) hin108 (g := (mkF m 210 #[.val (.int (33 : Int32))] [(.int (90 : Int32)), (.int (1 : Int32)), (.ref b101), (.ref b101)])) rfl rfl (hb hby d17_210)
  have fa108 := Arf.set (v := .int (nar .char (90 : Int32))) Ar108 q108 S108 M108 H108 G108 (fits_nar_char (90 : Int32)) W108
  have f109 := Nat.le_trans f106 (Keep.of_wr W108).1
  have f110 := f107.wr W108 (Or.inr gh101)
  have N108 := Fr.snoc X108 N105 gn101
  refine EndsQ.go st108 ?_
  show EndsQ _ _ _ _ _ _ _ (T108.setTop (mkF m 211 #[.val (.int (33 : Int32))] [(.ref b101)]))
  refine EndsQ.go (b := T108.setTop (mkF m 215 #[.val (.int (33 : Int32))] [(.int (97 : Int32)), (.int (2 : Int32)), (.ref b101), (.ref b101)])) (fun t k => ?_) ?_
  · show Steps p.tables e below (T108.setTop (mkF m 211 #[.val (.int (33 : Int32))] [(.ref b101)])) _
    refine XS.dup X108.here hx rfl (hb hby d17_211) rfl rfl ?_
    show Steps p.tables e below (T108.setTop (mkF m 212 #[.val (.int (33 : Int32))] [(.ref b101), (.ref b101)])) _
    refine XS.iconst X108.here hx rfl (hb hby d17_212) ?_
    refine XS.bipush X108.here hx rfl (hb hby d17_213) ?_
    exact k
  obtain ⟨cl111, Ar111, q111, S111, M111, H111, G111⟩ := id fa108
  have hin111 : ¬ ((2 : Int32) < 0 ∨ cl111.slots.size ≤ ((2 : Int32)).toNatClampNeg) := inb_of S111 ⟨by decide, by decide⟩
  obtain ⟨T111, h111, X111, e111, W111, st111⟩ := stC X108 hx hZ e108 Ar111 (j := (2 : Int32)) hin111 (g := (mkF m 215 #[.val (.int (33 : Int32))] [(.int (97 : Int32)), (.int (2 : Int32)), (.ref b101), (.ref b101)])) rfl rfl (hb hby d17_215)
  have fa111 := Arf.set (v := .int (nar .char (97 : Int32))) Ar111 q111 S111 M111 H111 G111 (fits_nar_char (97 : Int32)) W111
  have f112 := Nat.le_trans f109 (Keep.of_wr W111).1
  have f113 := f110.wr W111 (Or.inr gh101)
  have N111 := Fr.snoc X111 N108 gn101
  refine EndsQ.go st111 ?_
  show EndsQ _ _ _ _ _ _ _ (T111.setTop (mkF m 216 #[.val (.int (33 : Int32))] [(.ref b101)]))
  refine EndsQ.go (b := T111.setTop (mkF m 220 #[.val (.int (33 : Int32))] [(.int (122 : Int32)), (.int (3 : Int32)), (.ref b101), (.ref b101)])) (fun t k => ?_) ?_
  · show Steps p.tables e below (T111.setTop (mkF m 216 #[.val (.int (33 : Int32))] [(.ref b101)])) _
    refine XS.dup X111.here hx rfl (hb hby d17_216) rfl rfl ?_
    refine XS.iconst X111.here hx rfl (hb hby d17_217) ?_
    show Steps p.tables e below (T111.setTop (mkF m 218 #[.val (.int (33 : Int32))] [(.int (3 : Int32)), (.ref b101), (.ref b101)])) _
    refine XS.bipush X111.here hx rfl (hb hby d17_218) ?_
    exact k
  obtain ⟨cl114, Ar114, q114, S114, M114, H114, G114⟩ := id fa111
  have hin114 : ¬ ((3 : Int32) < 0 ∨ cl114.slots.size ≤ ((3 : Int32)).toNatClampNeg) := inb_of S114 ⟨by decide, by decide⟩
  obtain ⟨T114, h114, X114, e114, W114, st114⟩ := stC X111 hx hZ e111 Ar114 (j := (3 : Int32)) hin114 (g := (mkF m 220 #[.val (.int (33 : Int32))] [(.int (122 : Int32)), (.int (3 : Int32)), (.ref b101), (.ref b101)])) rfl rfl (hb hby d17_220)
  have fa114 := Arf.set (v := .int (nar .char (122 : Int32))) Ar114 q114 S114 M114 H114 G114 (fits_nar_char (122 : Int32)) W114
  have f115 := Nat.le_trans f112 (Keep.of_wr W114).1
  have f116 := f113.wr W114 (Or.inr gh101)
  have N114 := Fr.snoc X114 N111 gn101
  refine EndsQ.go st114 ?_
  show EndsQ _ _ _ _ _ _ _ (T114.setTop (mkF m 221 #[.val (.int (33 : Int32))] [(.ref b101)]))
  refine EndsQ.go (b := T114.setTop (mkF m 225 #[.val (.int (33 : Int32))] [(.int (48 : Int32)), (.int (4 : Int32)), (.ref b101), (.ref b101)])) (fun t k => ?_) ?_
  · show Steps p.tables e below (T114.setTop (mkF m 221 #[.val (.int (33 : Int32))] [(.ref b101)])) _
    refine XS.dup X114.here hx rfl (hb hby d17_221) rfl rfl ?_
    refine XS.iconst X114.here hx rfl (hb hby d17_222) ?_
    refine XS.bipush X114.here hx rfl (hb hby d17_223) ?_
    show Steps p.tables e below (T114.setTop (mkF m 225 #[.val (.int (33 : Int32))] [(.int (48 : Int32)), (.int (4 : Int32)), (.ref b101), (.ref b101)])) _
    exact k
  obtain ⟨cl117, Ar117, q117, S117, M117, H117, G117⟩ := id fa114
  have hin117 : ¬ ((4 : Int32) < 0 ∨ cl117.slots.size ≤ ((4 : Int32)).toNatClampNeg) := inb_of S117 ⟨by decide, by decide⟩
  obtain ⟨T117, h117, X117, e117, W117, st117⟩ := stC X114 hx hZ e114 Ar117 (j := (4 : Int32)) hin117 (g := (mkF m 225 #[.val (.int (33 : Int32))] [(.int (48 : Int32)), (.int (4 : Int32)), (.ref b101), (.ref b101)])) rfl rfl (hb hby d17_225)
  have fa117 := Arf.set (v := .int (nar .char (48 : Int32))) Ar117 q117 S117 M117 H117 G117 (fits_nar_char (48 : Int32)) W117
  have f118 := Nat.le_trans f115 (Keep.of_wr W117).1
  have f119 := f116.wr W117 (Or.inr gh101)
  have N117 := Fr.snoc X117 N114 gn101
  refine EndsQ.go st117 ?_
  show EndsQ _ _ _ _ _ _ _ (T117.setTop (mkF m 226 #[.val (.int (33 : Int32))] [(.ref b101)]))
  refine EndsQ.go (b := T117.setTop (mkF m 230 #[.val (.int (33 : Int32))] [(.int (57 : Int32)), (.int (5 : Int32)), (.ref b101), (.ref b101)])) (fun t k => ?_) ?_
  · show Steps p.tables e below (T117.setTop (mkF m 226 #[.val (.int (33 : Int32))] [(.ref b101)])) _
    refine XS.dup X117.here hx rfl (hb hby d17_226) rfl rfl ?_
    refine XS.iconst X117.here hx rfl (hb hby d17_227) ?_
    refine XS.bipush X117.here hx rfl (hb hby d17_228) ?_
    exact k
  obtain ⟨cl120, Ar120, q120, S120, M120, H120, G120⟩ := id fa117
  have hin120 : ¬ ((5 : Int32) < 0 ∨ cl120.slots.size ≤ ((5 : Int32)).toNatClampNeg) := inb_of S120 ⟨by decide, by decide⟩
  obtain ⟨T120, h120, X120, e120, W120, st120⟩ := stC X117 hx hZ e117 Ar120 (j := (5 : Int32)) hin120 (g := (mkF m 230 #[.val (.int (33 : Int32))] [(.int (57 : Int32)), (.int (5 : Int32)), (.ref b101), (.ref b101)])) rfl rfl (hb hby d17_230)
  have fa120 := Arf.set (v := .int (nar .char (57 : Int32))) Ar120 q120 S120 M120 H120 G120 (fits_nar_char (57 : Int32)) W120
  have f121 := Nat.le_trans f118 (Keep.of_wr W120).1
  have f122 := f119.wr W120 (Or.inr gh101)
  have N120 := Fr.snoc X120 N117 gn101
  refine EndsQ.go st120 ?_
  show EndsQ _ _ _ _ _ _ _ (T120.setTop (mkF m 231 #[.val (.int (33 : Int32))] [(.ref b101)]))
  refine EndsQ.go (b := T120.setTop (mkF m 236 #[.val (.int (33 : Int32))] [(.int (45 : Int32)), (.int (6 : Int32)), (.ref b101), (.ref b101)])) (fun t k => ?_) ?_
  · show Steps p.tables e below (T120.setTop (mkF m 231 #[.val (.int (33 : Int32))] [(.ref b101)])) _
    refine XS.dup X120.here hx rfl (hb hby d17_231) rfl rfl ?_
    show Steps p.tables e below (T120.setTop (mkF m 232 #[.val (.int (33 : Int32))] [(.ref b101), (.ref b101)])) _
    refine XS.bipush X120.here hx rfl (hb hby d17_232) ?_
    refine XS.bipush X120.here hx rfl (hb hby d17_234) ?_
    exact k
  obtain ⟨cl123, Ar123, q123, S123, M123, H123, G123⟩ := id fa120
  have hin123 : ¬ ((6 : Int32) < 0 ∨ cl123.slots.size ≤ ((6 : Int32)).toNatClampNeg) := inb_of S123 ⟨by decide, by decide⟩
  obtain ⟨T123, h123, X123, e123, W123, st123⟩ := stC X120 hx hZ e120 Ar123 (j := (6 : Int32)) hin123 (g := (mkF m 236 #[.val (.int (33 : Int32))] [(.int (45 : Int32)), (.int (6 : Int32)), (.ref b101), (.ref b101)])) rfl rfl (hb hby d17_236)
  have fa123 := Arf.set (v := .int (nar .char (45 : Int32))) Ar123 q123 S123 M123 H123 G123 (fits_nar_char (45 : Int32)) W123
  have f124 := Nat.le_trans f121 (Keep.of_wr W123).1
  have f125 := f122.wr W123 (Or.inr gh101)
  have N123 := Fr.snoc X123 N120 gn101
  refine EndsQ.go st123 ?_
  show EndsQ _ _ _ _ _ _ _ (T123.setTop (mkF m 237 #[.val (.int (33 : Int32))] [(.ref b101)]))
  refine EndsQ.go (b := T123.setTop (mkF m 242 #[.val (.int (33 : Int32))] [(.int (65 : Int32)), (.int (7 : Int32)), (.ref b101), (.ref b101)])) (fun t k => ?_) ?_
  · show Steps p.tables e below (T123.setTop (mkF m 237 #[.val (.int (33 : Int32))] [(.ref b101)])) _
    refine XS.dup X123.here hx rfl (hb hby d17_237) rfl rfl ?_
    refine XS.bipush X123.here hx rfl (hb hby d17_238) ?_
    show Steps p.tables e below (T123.setTop (mkF m 240 #[.val (.int (33 : Int32))] [(.int (7 : Int32)), (.ref b101), (.ref b101)])) _
    refine XS.bipush X123.here hx rfl (hb hby d17_240) ?_
    exact k
  obtain ⟨cl126, Ar126, q126, S126, M126, H126, G126⟩ := id fa123
  have hin126 : ¬ ((7 : Int32) < 0 ∨ cl126.slots.size ≤ ((7 : Int32)).toNatClampNeg) := inb_of S126 ⟨by decide, by decide⟩
  obtain ⟨T126, h126, X126, e126, W126, st126⟩ := stC X123 hx hZ e123 Ar126 (j := (7 : Int32)) hin126 (g := (mkF m 242 #[.val (.int (33 : Int32))] [(.int (65 : Int32)), (.int (7 : Int32)), (.ref b101), (.ref b101)])) rfl rfl (hb hby d17_242)
  have fa126 := Arf.set (v := .int (nar .char (65 : Int32))) Ar126 q126 S126 M126 H126 G126 (fits_nar_char (65 : Int32)) W126
  have f127 := Nat.le_trans f124 (Keep.of_wr W126).1
  have f128 := f125.wr W126 (Or.inr gh101)
  have N126 := Fr.snoc X126 N123 gn101
  refine EndsQ.go st126 ?_
  show EndsQ _ _ _ _ _ _ _ (T126.setTop (mkF m 243 #[.val (.int (33 : Int32))] [(.ref b101)]))
  refine EndsQ.go (b := T126.setTop (mkF m 248 #[.val (.int (33 : Int32))] [(.int (90 : Int32)), (.int (8 : Int32)), (.ref b101), (.ref b101)])) (fun t k => ?_) ?_
  · show Steps p.tables e below (T126.setTop (mkF m 243 #[.val (.int (33 : Int32))] [(.ref b101)])) _
    refine XS.dup X126.here hx rfl (hb hby d17_243) rfl rfl ?_
    refine XS.bipush X126.here hx rfl (hb hby d17_244) ?_
    refine XS.bipush X126.here hx rfl (hb hby d17_246) ?_
    show Steps p.tables e below (T126.setTop (mkF m 248 #[.val (.int (33 : Int32))] [(.int (90 : Int32)), (.int (8 : Int32)), (.ref b101), (.ref b101)])) _
    exact k
  obtain ⟨cl129, Ar129, q129, S129, M129, H129, G129⟩ := id fa126
  have hin129 : ¬ ((8 : Int32) < 0 ∨ cl129.slots.size ≤ ((8 : Int32)).toNatClampNeg) := inb_of S129 ⟨by decide, by decide⟩
  obtain ⟨T129, h129, X129, e129, W129, st129⟩ := stC X126 hx hZ e126 Ar129 (j := (8 : Int32)) hin129 (g := (mkF m 248 #[.val (.int (33 : Int32))] [(.int (90 : Int32)), (.int (8 : Int32)), (.ref b101), (.ref b101)])) rfl rfl (hb hby d17_248)
  have fa129 := Arf.set (v := .int (nar .char (90 : Int32))) Ar129 q129 S129 M129 H129 G129 (fits_nar_char (90 : Int32)) W129
  have f130 := Nat.le_trans f127 (Keep.of_wr W129).1
  have f131 := f128.wr W129 (Or.inr gh101)
  have N129 := Fr.snoc X129 N126 gn101
  refine EndsQ.go st129 ?_
  show EndsQ _ _ _ _ _ _ _ (T129.setTop (mkF m 249 #[.val (.int (33 : Int32))] [(.ref b101)]))
  refine EndsQ.go (b := T129.setTop (mkF m 254 #[.val (.int (33 : Int32))] [(.int (97 : Int32)), (.int (9 : Int32)), (.ref b101), (.ref b101)])) (fun t k => ?_) ?_
  · show Steps p.tables e below (T129.setTop (mkF m 249 #[.val (.int (33 : Int32))] [(.ref b101)])) _
    refine XS.dup X129.here hx rfl (hb hby d17_249) rfl rfl ?_
    refine XS.bipush X129.here hx rfl (hb hby d17_250) ?_
    refine XS.bipush X129.here hx rfl (hb hby d17_252) ?_
    exact k
  obtain ⟨cl132, Ar132, q132, S132, M132, H132, G132⟩ := id fa129
  have hin132 : ¬ ((9 : Int32) < 0 ∨ cl132.slots.size ≤ ((9 : Int32)).toNatClampNeg) := inb_of S132 ⟨by decide, by decide⟩
  obtain ⟨T132, h132, X132, e132, W132, st132⟩ := stC X129 hx hZ e129 Ar132 (j := (9 : Int32)) hin132 (g := (mkF m 254 #[.val (.int (33 : Int32))] [(.int (97 : Int32)), (.int (9 : Int32)), (.ref b101), (.ref b101)])) rfl rfl (hb hby d17_254)
  have fa132 := Arf.set (v := .int (nar .char (97 : Int32))) Ar132 q132 S132 M132 H132 G132 (fits_nar_char (97 : Int32)) W132
  have f133 := Nat.le_trans f130 (Keep.of_wr W132).1
  have f134 := f131.wr W132 (Or.inr gh101)
  have N132 := Fr.snoc X132 N129 gn101
  refine EndsQ.go st132 ?_
  show EndsQ _ _ _ _ _ _ _ (T132.setTop (mkF m 255 #[.val (.int (33 : Int32))] [(.ref b101)]))
  refine EndsQ.go (b := T132.setTop (mkF m 260 #[.val (.int (33 : Int32))] [(.int (122 : Int32)), (.int (10 : Int32)), (.ref b101), (.ref b101)])) (fun t k => ?_) ?_
  · show Steps p.tables e below (T132.setTop (mkF m 255 #[.val (.int (33 : Int32))] [(.ref b101)])) _
    refine XS.dup X132.here hx rfl (hb hby d17_255) rfl rfl ?_
    show Steps p.tables e below (T132.setTop (mkF m 256 #[.val (.int (33 : Int32))] [(.ref b101), (.ref b101)])) _
    refine XS.bipush X132.here hx rfl (hb hby d17_256) ?_
    refine XS.bipush X132.here hx rfl (hb hby d17_258) ?_
    exact k
  obtain ⟨cl135, Ar135, q135, S135, M135, H135, G135⟩ := id fa132
  have hin135 : ¬ ((10 : Int32) < 0 ∨ cl135.slots.size ≤ ((10 : Int32)).toNatClampNeg) := inb_of S135 ⟨by decide, by decide⟩
  obtain ⟨T135, h135, X135, e135, W135, st135⟩ := stC X132 hx hZ e132 Ar135 (j := (10 : Int32)) hin135 (g := (mkF m 260 #[.val (.int (33 : Int32))] [(.int (122 : Int32)), (.int (10 : Int32)), (.ref b101), (.ref b101)])) rfl rfl (hb hby d17_260)
  have fa135 := Arf.set (v := .int (nar .char (122 : Int32))) Ar135 q135 S135 M135 H135 G135 (fits_nar_char (122 : Int32)) W135
  have f136 := Nat.le_trans f133 (Keep.of_wr W135).1
  have f137 := f134.wr W135 (Or.inr gh101)
  have N135 := Fr.snoc X135 N132 gn101
  refine EndsQ.go st135 ?_
  show EndsQ _ _ _ _ _ _ _ (T135.setTop (mkF m 261 #[.val (.int (33 : Int32))] [(.ref b101)]))
  refine EndsQ.go (b := T135.setTop (mkF m 266 #[.val (.int (33 : Int32))] [(.int (48 : Int32)), (.int (11 : Int32)), (.ref b101), (.ref b101)])) (fun t k => ?_) ?_
  · show Steps p.tables e below (T135.setTop (mkF m 261 #[.val (.int (33 : Int32))] [(.ref b101)])) _
    refine XS.dup X135.here hx rfl (hb hby d17_261) rfl rfl ?_
    refine XS.bipush X135.here hx rfl (hb hby d17_262) ?_
    show Steps p.tables e below (T135.setTop (mkF m 264 #[.val (.int (33 : Int32))] [(.int (11 : Int32)), (.ref b101), (.ref b101)])) _
    refine XS.bipush X135.here hx rfl (hb hby d17_264) ?_
    exact k
  obtain ⟨cl138, Ar138, q138, S138, M138, H138, G138⟩ := id fa135
  have hin138 : ¬ ((11 : Int32) < 0 ∨ cl138.slots.size ≤ ((11 : Int32)).toNatClampNeg) := inb_of S138 ⟨by decide, by decide⟩
  obtain ⟨T138, h138, X138, e138, W138, st138⟩ := stC X135 hx hZ e135 Ar138 (j := (11 : Int32)) hin138 (g := (mkF m 266 #[.val (.int (33 : Int32))] [(.int (48 : Int32)), (.int (11 : Int32)), (.ref b101), (.ref b101)])) rfl rfl (hb hby d17_266)
  have fa138 := Arf.set (v := .int (nar .char (48 : Int32))) Ar138 q138 S138 M138 H138 G138 (fits_nar_char (48 : Int32)) W138
  have f139 := Nat.le_trans f136 (Keep.of_wr W138).1
  have f140 := f137.wr W138 (Or.inr gh101)
  have N138 := Fr.snoc X138 N135 gn101
  refine EndsQ.go st138 ?_
  show EndsQ _ _ _ _ _ _ _ (T138.setTop (mkF m 267 #[.val (.int (33 : Int32))] [(.ref b101)]))
  refine EndsQ.go (b := T138.setTop (mkF m 272 #[.val (.int (33 : Int32))] [(.int (57 : Int32)), (.int (12 : Int32)), (.ref b101), (.ref b101)])) (fun t k => ?_) ?_
  · show Steps p.tables e below (T138.setTop (mkF m 267 #[.val (.int (33 : Int32))] [(.ref b101)])) _
    refine XS.dup X138.here hx rfl (hb hby d17_267) rfl rfl ?_
    refine XS.bipush X138.here hx rfl (hb hby d17_268) ?_
    refine XS.bipush X138.here hx rfl (hb hby d17_270) ?_
    show Steps p.tables e below (T138.setTop (mkF m 272 #[.val (.int (33 : Int32))] [(.int (57 : Int32)), (.int (12 : Int32)), (.ref b101), (.ref b101)])) _
    exact k
  obtain ⟨cl141, Ar141, q141, S141, M141, H141, G141⟩ := id fa138
  have hin141 : ¬ ((12 : Int32) < 0 ∨ cl141.slots.size ≤ ((12 : Int32)).toNatClampNeg) := inb_of S141 ⟨by decide, by decide⟩
  obtain ⟨T141, h141, X141, e141, W141, st141⟩ := stC X138 hx hZ e138 Ar141 (j := (12 : Int32)) hin141 (g := (mkF m 272 #[.val (.int (33 : Int32))] [(.int (57 : Int32)), (.int (12 : Int32)), (.ref b101), (.ref b101)])) rfl rfl (hb hby d17_272)
  have fa141 := Arf.set (v := .int (nar .char (57 : Int32))) Ar141 q141 S141 M141 H141 G141 (fits_nar_char (57 : Int32)) W141
  have f142 := Nat.le_trans f139 (Keep.of_wr W141).1
  have f143 := f140.wr W141 (Or.inr gh101)
  have N141 := Fr.snoc X141 N138 gn101
  refine EndsQ.go st141 ?_
  show EndsQ _ _ _ _ _ _ _ (T141.setTop (mkF m 273 #[.val (.int (33 : Int32))] [(.ref b101)]))
  refine EndsQ.go (b := T141.setTop (mkF m 278 #[.val (.int (33 : Int32))] [(.int (45 : Int32)), (.int (13 : Int32)), (.ref b101), (.ref b101)])) (fun t k => ?_) ?_
  · show Steps p.tables e below (T141.setTop (mkF m 273 #[.val (.int (33 : Int32))] [(.ref b101)])) _
    refine XS.dup X141.here hx rfl (hb hby d17_273) rfl rfl ?_
    refine XS.bipush X141.here hx rfl (hb hby d17_274) ?_
    refine XS.bipush X141.here hx rfl (hb hby d17_276) ?_
    exact k
  obtain ⟨cl144, Ar144, q144, S144, M144, H144, G144⟩ := id fa141
  have hin144 : ¬ ((13 : Int32) < 0 ∨ cl144.slots.size ≤ ((13 : Int32)).toNatClampNeg) := inb_of S144 ⟨by decide, by decide⟩
  obtain ⟨T144, h144, X144, e144, W144, st144⟩ := stC X141 hx hZ e141 Ar144 (j := (13 : Int32)) hin144 (g := (mkF m 278 #[.val (.int (33 : Int32))] [(.int (45 : Int32)), (.int (13 : Int32)), (.ref b101), (.ref b101)])) rfl rfl (hb hby d17_278)
  have fa144 := Arf.set (v := .int (nar .char (45 : Int32))) Ar144 q144 S144 M144 H144 G144 (fits_nar_char (45 : Int32)) W144
  have f145 := Nat.le_trans f142 (Keep.of_wr W144).1
  have f146 := f143.wr W144 (Or.inr gh101)
  have N144 := Fr.snoc X144 N141 gn101
  refine EndsQ.go st144 ?_
  show EndsQ _ _ _ _ _ _ _ (T144.setTop (mkF m 279 #[.val (.int (33 : Int32))] [(.ref b101)]))
  refine EndsQ.go (b := T144.setTop (mkF m 284 #[.val (.int (33 : Int32))] [(.int (65 : Int32)), (.int (14 : Int32)), (.ref b101), (.ref b101)])) (fun t k => ?_) ?_
  · show Steps p.tables e below (T144.setTop (mkF m 279 #[.val (.int (33 : Int32))] [(.ref b101)])) _
    refine XS.dup X144.here hx rfl (hb hby d17_279) rfl rfl ?_
    show Steps p.tables e below (T144.setTop (mkF m 280 #[.val (.int (33 : Int32))] [(.ref b101), (.ref b101)])) _
    refine XS.bipush X144.here hx rfl (hb hby d17_280) ?_
    refine XS.bipush X144.here hx rfl (hb hby d17_282) ?_
    exact k
  obtain ⟨cl147, Ar147, q147, S147, M147, H147, G147⟩ := id fa144
  have hin147 : ¬ ((14 : Int32) < 0 ∨ cl147.slots.size ≤ ((14 : Int32)).toNatClampNeg) := inb_of S147 ⟨by decide, by decide⟩
  obtain ⟨T147, h147, X147, e147, W147, st147⟩ := stC X144 hx hZ e144 Ar147 (j := (14 : Int32)) hin147 (g := (mkF m 284 #[.val (.int (33 : Int32))] [(.int (65 : Int32)), (.int (14 : Int32)), (.ref b101), (.ref b101)])) rfl rfl (hb hby d17_284)
  have fa147 := Arf.set (v := .int (nar .char (65 : Int32))) Ar147 q147 S147 M147 H147 G147 (fits_nar_char (65 : Int32)) W147
  have f148 := Nat.le_trans f145 (Keep.of_wr W147).1
  have f149 := f146.wr W147 (Or.inr gh101)
  have N147 := Fr.snoc X147 N144 gn101
  refine EndsQ.go st147 ?_
  show EndsQ _ _ _ _ _ _ _ (T147.setTop (mkF m 285 #[.val (.int (33 : Int32))] [(.ref b101)]))
  refine EndsQ.go (b := T147.setTop (mkF m 290 #[.val (.int (33 : Int32))] [(.int (90 : Int32)), (.int (15 : Int32)), (.ref b101), (.ref b101)])) (fun t k => ?_) ?_
  · show Steps p.tables e below (T147.setTop (mkF m 285 #[.val (.int (33 : Int32))] [(.ref b101)])) _
    refine XS.dup X147.here hx rfl (hb hby d17_285) rfl rfl ?_
    refine XS.bipush X147.here hx rfl (hb hby d17_286) ?_
    show Steps p.tables e below (T147.setTop (mkF m 288 #[.val (.int (33 : Int32))] [(.int (15 : Int32)), (.ref b101), (.ref b101)])) _
    refine XS.bipush X147.here hx rfl (hb hby d17_288) ?_
    exact k
  obtain ⟨cl150, Ar150, q150, S150, M150, H150, G150⟩ := id fa147
  have hin150 : ¬ ((15 : Int32) < 0 ∨ cl150.slots.size ≤ ((15 : Int32)).toNatClampNeg) := inb_of S150 ⟨by decide, by decide⟩
  obtain ⟨T150, h150, X150, e150, W150, st150⟩ := stC X147 hx hZ e147 Ar150 (j := (15 : Int32)) hin150 (g := (mkF m 290 #[.val (.int (33 : Int32))] [(.int (90 : Int32)), (.int (15 : Int32)), (.ref b101), (.ref b101)])) rfl rfl (hb hby d17_290)
  have fa150 := Arf.set (v := .int (nar .char (90 : Int32))) Ar150 q150 S150 M150 H150 G150 (fits_nar_char (90 : Int32)) W150
  have f151 := Nat.le_trans f148 (Keep.of_wr W150).1
  have f152 := f149.wr W150 (Or.inr gh101)
  have N150 := Fr.snoc X150 N147 gn101
  refine EndsQ.go st150 ?_
  show EndsQ _ _ _ _ _ _ _ (T150.setTop (mkF m 291 #[.val (.int (33 : Int32))] [(.ref b101)]))
  refine EndsQ.go (b := T150.setTop (mkF m 296 #[.val (.int (33 : Int32))] [(.int (97 : Int32)), (.int (16 : Int32)), (.ref b101), (.ref b101)])) (fun t k => ?_) ?_
  · show Steps p.tables e below (T150.setTop (mkF m 291 #[.val (.int (33 : Int32))] [(.ref b101)])) _
    refine XS.dup X150.here hx rfl (hb hby d17_291) rfl rfl ?_
    refine XS.bipush X150.here hx rfl (hb hby d17_292) ?_
    refine XS.bipush X150.here hx rfl (hb hby d17_294) ?_
    show Steps p.tables e below (T150.setTop (mkF m 296 #[.val (.int (33 : Int32))] [(.int (97 : Int32)), (.int (16 : Int32)), (.ref b101), (.ref b101)])) _
    exact k
  obtain ⟨cl153, Ar153, q153, S153, M153, H153, G153⟩ := id fa150
  have hin153 : ¬ ((16 : Int32) < 0 ∨ cl153.slots.size ≤ ((16 : Int32)).toNatClampNeg) := inb_of S153 ⟨by decide, by decide⟩
  obtain ⟨T153, h153, X153, e153, W153, st153⟩ := stC X150 hx hZ e150 Ar153 (j := (16 : Int32)) hin153 (g := (mkF m 296 #[.val (.int (33 : Int32))] [(.int (97 : Int32)), (.int (16 : Int32)), (.ref b101), (.ref b101)])) rfl rfl (hb hby d17_296)
  have fa153 := Arf.set (v := .int (nar .char (97 : Int32))) Ar153 q153 S153 M153 H153 G153 (fits_nar_char (97 : Int32)) W153
  have f154 := Nat.le_trans f151 (Keep.of_wr W153).1
  have f155 := f152.wr W153 (Or.inr gh101)
  have N153 := Fr.snoc X153 N150 gn101
  refine EndsQ.go st153 ?_
  show EndsQ _ _ _ _ _ _ _ (T153.setTop (mkF m 297 #[.val (.int (33 : Int32))] [(.ref b101)]))
  refine EndsQ.go (b := T153.setTop (mkF m 302 #[.val (.int (33 : Int32))] [(.int (122 : Int32)), (.int (17 : Int32)), (.ref b101), (.ref b101)])) (fun t k => ?_) ?_
  · show Steps p.tables e below (T153.setTop (mkF m 297 #[.val (.int (33 : Int32))] [(.ref b101)])) _
    refine XS.dup X153.here hx rfl (hb hby d17_297) rfl rfl ?_
    refine XS.bipush X153.here hx rfl (hb hby d17_298) ?_
    refine XS.bipush X153.here hx rfl (hb hby d17_300) ?_
    exact k
  obtain ⟨cl156, Ar156, q156, S156, M156, H156, G156⟩ := id fa153
  have hin156 : ¬ ((17 : Int32) < 0 ∨ cl156.slots.size ≤ ((17 : Int32)).toNatClampNeg) := inb_of S156 ⟨by decide, by decide⟩
  obtain ⟨T156, h156, X156, e156, W156, st156⟩ := stC X153 hx hZ e153 Ar156 (j := (17 : Int32)) hin156 (g := (mkF m 302 #[.val (.int (33 : Int32))] [(.int (122 : Int32)), (.int (17 : Int32)), (.ref b101), (.ref b101)])) rfl rfl (hb hby d17_302)
  have fa156 := Arf.set (v := .int (nar .char (122 : Int32))) Ar156 q156 S156 M156 H156 G156 (fits_nar_char (122 : Int32)) W156
  have f157 := Nat.le_trans f154 (Keep.of_wr W156).1
  have f158 := f155.wr W156 (Or.inr gh101)
  have N156 := Fr.snoc X156 N153 gn101
  refine EndsQ.go st156 ?_
  show EndsQ _ _ _ _ _ _ _ (T156.setTop (mkF m 303 #[.val (.int (33 : Int32))] [(.ref b101)]))
  refine EndsQ.go (b := T156.setTop (mkF m 308 #[.val (.int (33 : Int32))] [(.int (48 : Int32)), (.int (18 : Int32)), (.ref b101), (.ref b101)])) (fun t k => ?_) ?_
  · show Steps p.tables e below (T156.setTop (mkF m 303 #[.val (.int (33 : Int32))] [(.ref b101)])) _
    refine XS.dup X156.here hx rfl (hb hby d17_303) rfl rfl ?_
    show Steps p.tables e below (T156.setTop (mkF m 304 #[.val (.int (33 : Int32))] [(.ref b101), (.ref b101)])) _
    refine XS.bipush X156.here hx rfl (hb hby d17_304) ?_
    refine XS.bipush X156.here hx rfl (hb hby d17_306) ?_
    exact k
  obtain ⟨cl159, Ar159, q159, S159, M159, H159, G159⟩ := id fa156
  have hin159 : ¬ ((18 : Int32) < 0 ∨ cl159.slots.size ≤ ((18 : Int32)).toNatClampNeg) := inb_of S159 ⟨by decide, by decide⟩
  obtain ⟨T159, h159, X159, e159, W159, st159⟩ := stC X156 hx hZ e156 Ar159 (j := (18 : Int32)) hin159 (g := (mkF m 308 #[.val (.int (33 : Int32))] [(.int (48 : Int32)), (.int (18 : Int32)), (.ref b101), (.ref b101)])) rfl rfl (hb hby d17_308)
  have fa159 := Arf.set (v := .int (nar .char (48 : Int32))) Ar159 q159 S159 M159 H159 G159 (fits_nar_char (48 : Int32)) W159
  have f160 := Nat.le_trans f157 (Keep.of_wr W159).1
  have f161 := f158.wr W159 (Or.inr gh101)
  have N159 := Fr.snoc X159 N156 gn101
  refine EndsQ.go st159 ?_
  show EndsQ _ _ _ _ _ _ _ (T159.setTop (mkF m 309 #[.val (.int (33 : Int32))] [(.ref b101)]))
  refine EndsQ.go (b := T159.setTop (mkF m 314 #[.val (.int (33 : Int32))] [(.int (57 : Int32)), (.int (19 : Int32)), (.ref b101), (.ref b101)])) (fun t k => ?_) ?_
  · show Steps p.tables e below (T159.setTop (mkF m 309 #[.val (.int (33 : Int32))] [(.ref b101)])) _
    refine XS.dup X159.here hx rfl (hb hby d17_309) rfl rfl ?_
    refine XS.bipush X159.here hx rfl (hb hby d17_310) ?_
    show Steps p.tables e below (T159.setTop (mkF m 312 #[.val (.int (33 : Int32))] [(.int (19 : Int32)), (.ref b101), (.ref b101)])) _
    refine XS.bipush X159.here hx rfl (hb hby d17_312) ?_
    exact k
  obtain ⟨cl162, Ar162, q162, S162, M162, H162, G162⟩ := id fa159
  have hin162 : ¬ ((19 : Int32) < 0 ∨ cl162.slots.size ≤ ((19 : Int32)).toNatClampNeg) := inb_of S162 ⟨by decide, by decide⟩
  obtain ⟨T162, h162, X162, e162, W162, st162⟩ := stC X159 hx hZ e159 Ar162 (j := (19 : Int32)) hin162 (g := (mkF m 314 #[.val (.int (33 : Int32))] [(.int (57 : Int32)), (.int (19 : Int32)), (.ref b101), (.ref b101)])) rfl rfl (hb hby d17_314)
  have fa162 := Arf.set (v := .int (nar .char (57 : Int32))) Ar162 q162 S162 M162 H162 G162 (fits_nar_char (57 : Int32)) W162
  have f163 := Nat.le_trans f160 (Keep.of_wr W162).1
  have f164 := f161.wr W162 (Or.inr gh101)
  have N162 := Fr.snoc X162 N159 gn101
  refine EndsQ.go st162 ?_
  show EndsQ _ _ _ _ _ _ _ (T162.setTop (mkF m 315 #[.val (.int (33 : Int32))] [(.ref b101)]))
  refine EndsQ.go (b := T162.setTop (mkF m 320 #[.val (.int (33 : Int32))] [(.int (45 : Int32)), (.int (20 : Int32)), (.ref b101), (.ref b101)])) (fun t k => ?_) ?_
  · show Steps p.tables e below (T162.setTop (mkF m 315 #[.val (.int (33 : Int32))] [(.ref b101)])) _
    refine XS.dup X162.here hx rfl (hb hby d17_315) rfl rfl ?_
    refine XS.bipush X162.here hx rfl (hb hby d17_316) ?_
    refine XS.bipush X162.here hx rfl (hb hby d17_318) ?_
    show Steps p.tables e below (T162.setTop (mkF m 320 #[.val (.int (33 : Int32))] [(.int (45 : Int32)), (.int (20 : Int32)), (.ref b101), (.ref b101)])) _
    exact k
  obtain ⟨cl165, Ar165, q165, S165, M165, H165, G165⟩ := id fa162
  have hin165 : ¬ ((20 : Int32) < 0 ∨ cl165.slots.size ≤ ((20 : Int32)).toNatClampNeg) := inb_of S165 ⟨by decide, by decide⟩
  obtain ⟨T165, h165, X165, e165, W165, st165⟩ := stC X162 hx hZ e162 Ar165 (j := (20 : Int32)) hin165 (g := (mkF m 320 #[.val (.int (33 : Int32))] [(.int (45 : Int32)), (.int (20 : Int32)), (.ref b101), (.ref b101)])) rfl rfl (hb hby d17_320)
  have fa165 := Arf.set (v := .int (nar .char (45 : Int32))) Ar165 q165 S165 M165 H165 G165 (fits_nar_char (45 : Int32)) W165
  have f166 := Nat.le_trans f163 (Keep.of_wr W165).1
  have f167 := f164.wr W165 (Or.inr gh101)
  have N165 := Fr.snoc X165 N162 gn101
  refine EndsQ.go st165 ?_
  show EndsQ _ _ _ _ _ _ _ (T165.setTop (mkF m 321 #[.val (.int (33 : Int32))] [(.ref b101)]))
  refine EndsQ.go (b := T165.setTop (mkF m 326 #[.val (.int (33 : Int32))] [(.int (65 : Int32)), (.int (21 : Int32)), (.ref b101), (.ref b101)])) (fun t k => ?_) ?_
  · show Steps p.tables e below (T165.setTop (mkF m 321 #[.val (.int (33 : Int32))] [(.ref b101)])) _
    refine XS.dup X165.here hx rfl (hb hby d17_321) rfl rfl ?_
    refine XS.bipush X165.here hx rfl (hb hby d17_322) ?_
    refine XS.bipush X165.here hx rfl (hb hby d17_324) ?_
    exact k
  obtain ⟨cl168, Ar168, q168, S168, M168, H168, G168⟩ := id fa165
  have hin168 : ¬ ((21 : Int32) < 0 ∨ cl168.slots.size ≤ ((21 : Int32)).toNatClampNeg) := inb_of S168 ⟨by decide, by decide⟩
  obtain ⟨T168, h168, X168, e168, W168, st168⟩ := stC X165 hx hZ e165 Ar168 (j := (21 : Int32)) hin168 (g := (mkF m 326 #[.val (.int (33 : Int32))] [(.int (65 : Int32)), (.int (21 : Int32)), (.ref b101), (.ref b101)])) rfl rfl (hb hby d17_326)
  have fa168 := Arf.set (v := .int (nar .char (65 : Int32))) Ar168 q168 S168 M168 H168 G168 (fits_nar_char (65 : Int32)) W168
  have f169 := Nat.le_trans f166 (Keep.of_wr W168).1
  have f170 := f167.wr W168 (Or.inr gh101)
  have N168 := Fr.snoc X168 N165 gn101
  refine EndsQ.go st168 ?_
  show EndsQ _ _ _ _ _ _ _ (T168.setTop (mkF m 327 #[.val (.int (33 : Int32))] [(.ref b101)]))
  refine EndsQ.go (b := T168.setTop (mkF m 332 #[.val (.int (33 : Int32))] [(.int (90 : Int32)), (.int (22 : Int32)), (.ref b101), (.ref b101)])) (fun t k => ?_) ?_
  · show Steps p.tables e below (T168.setTop (mkF m 327 #[.val (.int (33 : Int32))] [(.ref b101)])) _
    refine XS.dup X168.here hx rfl (hb hby d17_327) rfl rfl ?_
    show Steps p.tables e below (T168.setTop (mkF m 328 #[.val (.int (33 : Int32))] [(.ref b101), (.ref b101)])) _
    refine XS.bipush X168.here hx rfl (hb hby d17_328) ?_
    refine XS.bipush X168.here hx rfl (hb hby d17_330) ?_
    exact k
  obtain ⟨cl171, Ar171, q171, S171, M171, H171, G171⟩ := id fa168
  have hin171 : ¬ ((22 : Int32) < 0 ∨ cl171.slots.size ≤ ((22 : Int32)).toNatClampNeg) := inb_of S171 ⟨by decide, by decide⟩
  obtain ⟨T171, h171, X171, e171, W171, st171⟩ := stC X168 hx hZ e168 Ar171 (j := (22 : Int32)) hin171 (g := (mkF m 332 #[.val (.int (33 : Int32))] [(.int (90 : Int32)), (.int (22 : Int32)), (.ref b101), (.ref b101)])) rfl rfl (hb hby d17_332)
  have fa171 := Arf.set (v := .int (nar .char (90 : Int32))) Ar171 q171 S171 M171 H171 G171 (fits_nar_char (90 : Int32)) W171
  have f172 := Nat.le_trans f169 (Keep.of_wr W171).1
  have f173 := f170.wr W171 (Or.inr gh101)
  have N171 := Fr.snoc X171 N168 gn101
  refine EndsQ.go st171 ?_
  show EndsQ _ _ _ _ _ _ _ (T171.setTop (mkF m 333 #[.val (.int (33 : Int32))] [(.ref b101)]))
  refine EndsQ.go (b := T171.setTop (mkF m 338 #[.val (.int (33 : Int32))] [(.int (97 : Int32)), (.int (23 : Int32)), (.ref b101), (.ref b101)])) (fun t k => ?_) ?_
  · show Steps p.tables e below (T171.setTop (mkF m 333 #[.val (.int (33 : Int32))] [(.ref b101)])) _
    refine XS.dup X171.here hx rfl (hb hby d17_333) rfl rfl ?_
    refine XS.bipush X171.here hx rfl (hb hby d17_334) ?_
    show Steps p.tables e below (T171.setTop (mkF m 336 #[.val (.int (33 : Int32))] [(.int (23 : Int32)), (.ref b101), (.ref b101)])) _
    refine XS.bipush X171.here hx rfl (hb hby d17_336) ?_
    exact k
  obtain ⟨cl174, Ar174, q174, S174, M174, H174, G174⟩ := id fa171
  have hin174 : ¬ ((23 : Int32) < 0 ∨ cl174.slots.size ≤ ((23 : Int32)).toNatClampNeg) := inb_of S174 ⟨by decide, by decide⟩
  obtain ⟨T174, h174, X174, e174, W174, st174⟩ := stC X171 hx hZ e171 Ar174 (j := (23 : Int32)) hin174 (g := (mkF m 338 #[.val (.int (33 : Int32))] [(.int (97 : Int32)), (.int (23 : Int32)), (.ref b101), (.ref b101)])) rfl rfl (hb hby d17_338)
  have fa174 := Arf.set (v := .int (nar .char (97 : Int32))) Ar174 q174 S174 M174 H174 G174 (fits_nar_char (97 : Int32)) W174
  have f175 := Nat.le_trans f172 (Keep.of_wr W174).1
  have f176 := f173.wr W174 (Or.inr gh101)
  have N174 := Fr.snoc X174 N171 gn101
  refine EndsQ.go st174 ?_
  show EndsQ _ _ _ _ _ _ _ (T174.setTop (mkF m 339 #[.val (.int (33 : Int32))] [(.ref b101)]))
  refine EndsQ.go (b := T174.setTop (mkF m 344 #[.val (.int (33 : Int32))] [(.int (122 : Int32)), (.int (24 : Int32)), (.ref b101), (.ref b101)])) (fun t k => ?_) ?_
  · show Steps p.tables e below (T174.setTop (mkF m 339 #[.val (.int (33 : Int32))] [(.ref b101)])) _
    refine XS.dup X174.here hx rfl (hb hby d17_339) rfl rfl ?_
    refine XS.bipush X174.here hx rfl (hb hby d17_340) ?_
    refine XS.bipush X174.here hx rfl (hb hby d17_342) ?_
    show Steps p.tables e below (T174.setTop (mkF m 344 #[.val (.int (33 : Int32))] [(.int (122 : Int32)), (.int (24 : Int32)), (.ref b101), (.ref b101)])) _
    exact k
  obtain ⟨cl177, Ar177, q177, S177, M177, H177, G177⟩ := id fa174
  have hin177 : ¬ ((24 : Int32) < 0 ∨ cl177.slots.size ≤ ((24 : Int32)).toNatClampNeg) := inb_of S177 ⟨by decide, by decide⟩
  obtain ⟨T177, h177, X177, e177, W177, st177⟩ := stC X174 hx hZ e174 Ar177 (j := (24 : Int32)) hin177 (g := (mkF m 344 #[.val (.int (33 : Int32))] [(.int (122 : Int32)), (.int (24 : Int32)), (.ref b101), (.ref b101)])) rfl rfl (hb hby d17_344)
  have fa177 := Arf.set (v := .int (nar .char (122 : Int32))) Ar177 q177 S177 M177 H177 G177 (fits_nar_char (122 : Int32)) W177
  have f178 := Nat.le_trans f175 (Keep.of_wr W177).1
  have f179 := f176.wr W177 (Or.inr gh101)
  have N177 := Fr.snoc X177 N174 gn101
  refine EndsQ.go st177 ?_
  show EndsQ _ _ _ _ _ _ _ (T177.setTop (mkF m 345 #[.val (.int (33 : Int32))] [(.ref b101)]))
  refine EndsQ.go (b := T177.setTop (mkF m 350 #[.val (.int (33 : Int32))] [(.int (48 : Int32)), (.int (25 : Int32)), (.ref b101), (.ref b101)])) (fun t k => ?_) ?_
  · show Steps p.tables e below (T177.setTop (mkF m 345 #[.val (.int (33 : Int32))] [(.ref b101)])) _
    refine XS.dup X177.here hx rfl (hb hby d17_345) rfl rfl ?_
    refine XS.bipush X177.here hx rfl (hb hby d17_346) ?_
    refine XS.bipush X177.here hx rfl (hb hby d17_348) ?_
    exact k
  obtain ⟨cl180, Ar180, q180, S180, M180, H180, G180⟩ := id fa177
  have hin180 : ¬ ((25 : Int32) < 0 ∨ cl180.slots.size ≤ ((25 : Int32)).toNatClampNeg) := inb_of S180 ⟨by decide, by decide⟩
  obtain ⟨T180, h180, X180, e180, W180, st180⟩ := stC X177 hx hZ e177 Ar180 (j := (25 : Int32)) hin180 (g := (mkF m 350 #[.val (.int (33 : Int32))] [(.int (48 : Int32)), (.int (25 : Int32)), (.ref b101), (.ref b101)])) rfl rfl (hb hby d17_350)
  have fa180 := Arf.set (v := .int (nar .char (48 : Int32))) Ar180 q180 S180 M180 H180 G180 (fits_nar_char (48 : Int32)) W180
  have f181 := Nat.le_trans f178 (Keep.of_wr W180).1
  have f182 := f179.wr W180 (Or.inr gh101)
  have N180 := Fr.snoc X180 N177 gn101
  refine EndsQ.go st180 ?_
  show EndsQ _ _ _ _ _ _ _ (T180.setTop (mkF m 351 #[.val (.int (33 : Int32))] [(.ref b101)]))
  refine EndsQ.go (b := T180.setTop (mkF m 356 #[.val (.int (33 : Int32))] [(.int (57 : Int32)), (.int (26 : Int32)), (.ref b101), (.ref b101)])) (fun t k => ?_) ?_
  · show Steps p.tables e below (T180.setTop (mkF m 351 #[.val (.int (33 : Int32))] [(.ref b101)])) _
    refine XS.dup X180.here hx rfl (hb hby d17_351) rfl rfl ?_
    show Steps p.tables e below (T180.setTop (mkF m 352 #[.val (.int (33 : Int32))] [(.ref b101), (.ref b101)])) _
    refine XS.bipush X180.here hx rfl (hb hby d17_352) ?_
    refine XS.bipush X180.here hx rfl (hb hby d17_354) ?_
    exact k
  obtain ⟨cl183, Ar183, q183, S183, M183, H183, G183⟩ := id fa180
  have hin183 : ¬ ((26 : Int32) < 0 ∨ cl183.slots.size ≤ ((26 : Int32)).toNatClampNeg) := inb_of S183 ⟨by decide, by decide⟩
  obtain ⟨T183, h183, X183, e183, W183, st183⟩ := stC X180 hx hZ e180 Ar183 (j := (26 : Int32)) hin183 (g := (mkF m 356 #[.val (.int (33 : Int32))] [(.int (57 : Int32)), (.int (26 : Int32)), (.ref b101), (.ref b101)])) rfl rfl (hb hby d17_356)
  have fa183 := Arf.set (v := .int (nar .char (57 : Int32))) Ar183 q183 S183 M183 H183 G183 (fits_nar_char (57 : Int32)) W183
  have f184 := Nat.le_trans f181 (Keep.of_wr W183).1
  have f185 := f182.wr W183 (Or.inr gh101)
  have N183 := Fr.snoc X183 N180 gn101
  refine EndsQ.go st183 ?_
  show EndsQ _ _ _ _ _ _ _ (T183.setTop (mkF m 357 #[.val (.int (33 : Int32))] [(.ref b101)]))
  refine EndsQ.go (b := T183.setTop (mkF m 362 #[.val (.int (33 : Int32))] [(.int (45 : Int32)), (.int (27 : Int32)), (.ref b101), (.ref b101)])) (fun t k => ?_) ?_
  · show Steps p.tables e below (T183.setTop (mkF m 357 #[.val (.int (33 : Int32))] [(.ref b101)])) _
    refine XS.dup X183.here hx rfl (hb hby d17_357) rfl rfl ?_
    refine XS.bipush X183.here hx rfl (hb hby d17_358) ?_
    show Steps p.tables e below (T183.setTop (mkF m 360 #[.val (.int (33 : Int32))] [(.int (27 : Int32)), (.ref b101), (.ref b101)])) _
    refine XS.bipush X183.here hx rfl (hb hby d17_360) ?_
    exact k
  obtain ⟨cl186, Ar186, q186, S186, M186, H186, G186⟩ := id fa183
  have hin186 : ¬ ((27 : Int32) < 0 ∨ cl186.slots.size ≤ ((27 : Int32)).toNatClampNeg) := inb_of S186 ⟨by decide, by decide⟩
  obtain ⟨T186, h186, X186, e186, W186, st186⟩ := stC X183 hx hZ e183 Ar186 (j := (27 : Int32)) hin186 (g := (mkF m 362 #[.val (.int (33 : Int32))] [(.int (45 : Int32)), (.int (27 : Int32)), (.ref b101), (.ref b101)])) rfl rfl (hb hby d17_362)
  have fa186 := Arf.set (v := .int (nar .char (45 : Int32))) Ar186 q186 S186 M186 H186 G186 (fits_nar_char (45 : Int32)) W186
  have f187 := Nat.le_trans f184 (Keep.of_wr W186).1
  have f188 := f185.wr W186 (Or.inr gh101)
  have N186 := Fr.snoc X186 N183 gn101
  refine EndsQ.go st186 ?_
  show EndsQ _ _ _ _ _ _ _ (T186.setTop (mkF m 363 #[.val (.int (33 : Int32))] [(.ref b101)]))
  refine EndsQ.go (b := T186.setTop (mkF m 368 #[.val (.int (33 : Int32))] [(.int (65 : Int32)), (.int (28 : Int32)), (.ref b101), (.ref b101)])) (fun t k => ?_) ?_
  · show Steps p.tables e below (T186.setTop (mkF m 363 #[.val (.int (33 : Int32))] [(.ref b101)])) _
    refine XS.dup X186.here hx rfl (hb hby d17_363) rfl rfl ?_
    refine XS.bipush X186.here hx rfl (hb hby d17_364) ?_
    refine XS.bipush X186.here hx rfl (hb hby d17_366) ?_
    show Steps p.tables e below (T186.setTop (mkF m 368 #[.val (.int (33 : Int32))] [(.int (65 : Int32)), (.int (28 : Int32)), (.ref b101), (.ref b101)])) _
    exact k
  obtain ⟨cl189, Ar189, q189, S189, M189, H189, G189⟩ := id fa186
  have hin189 : ¬ ((28 : Int32) < 0 ∨ cl189.slots.size ≤ ((28 : Int32)).toNatClampNeg) := inb_of S189 ⟨by decide, by decide⟩
  obtain ⟨T189, h189, X189, e189, W189, st189⟩ := stC X186 hx hZ e186 Ar189 (j := (28 : Int32)) hin189 (g := (mkF m 368 #[.val (.int (33 : Int32))] [(.int (65 : Int32)), (.int (28 : Int32)), (.ref b101), (.ref b101)])) rfl rfl (hb hby d17_368)
  have fa189 := Arf.set (v := .int (nar .char (65 : Int32))) Ar189 q189 S189 M189 H189 G189 (fits_nar_char (65 : Int32)) W189
  have f190 := Nat.le_trans f187 (Keep.of_wr W189).1
  have f191 := f188.wr W189 (Or.inr gh101)
  have N189 := Fr.snoc X189 N186 gn101
  refine EndsQ.go st189 ?_
  show EndsQ _ _ _ _ _ _ _ (T189.setTop (mkF m 369 #[.val (.int (33 : Int32))] [(.ref b101)]))
  refine EndsQ.go (b := T189.setTop (mkF m 374 #[.val (.int (33 : Int32))] [(.int (90 : Int32)), (.int (29 : Int32)), (.ref b101), (.ref b101)])) (fun t k => ?_) ?_
  · show Steps p.tables e below (T189.setTop (mkF m 369 #[.val (.int (33 : Int32))] [(.ref b101)])) _
    refine XS.dup X189.here hx rfl (hb hby d17_369) rfl rfl ?_
    refine XS.bipush X189.here hx rfl (hb hby d17_370) ?_
    refine XS.bipush X189.here hx rfl (hb hby d17_372) ?_
    exact k
  obtain ⟨cl192, Ar192, q192, S192, M192, H192, G192⟩ := id fa189
  have hin192 : ¬ ((29 : Int32) < 0 ∨ cl192.slots.size ≤ ((29 : Int32)).toNatClampNeg) := inb_of S192 ⟨by decide, by decide⟩
  obtain ⟨T192, h192, X192, e192, W192, st192⟩ := stC X189 hx hZ e189 Ar192 (j := (29 : Int32)) hin192 (g := (mkF m 374 #[.val (.int (33 : Int32))] [(.int (90 : Int32)), (.int (29 : Int32)), (.ref b101), (.ref b101)])) rfl rfl (hb hby d17_374)
  have fa192 := Arf.set (v := .int (nar .char (90 : Int32))) Ar192 q192 S192 M192 H192 G192 (fits_nar_char (90 : Int32)) W192
  have f193 := Nat.le_trans f190 (Keep.of_wr W192).1
  have f194 := f191.wr W192 (Or.inr gh101)
  have N192 := Fr.snoc X192 N189 gn101
  refine EndsQ.go st192 ?_
  show EndsQ _ _ _ _ _ _ _ (T192.setTop (mkF m 375 #[.val (.int (33 : Int32))] [(.ref b101)]))
  refine EndsQ.go (b := T192.setTop (mkF m 380 #[.val (.int (33 : Int32))] [(.int (97 : Int32)), (.int (30 : Int32)), (.ref b101), (.ref b101)])) (fun t k => ?_) ?_
  · show Steps p.tables e below (T192.setTop (mkF m 375 #[.val (.int (33 : Int32))] [(.ref b101)])) _
    refine XS.dup X192.here hx rfl (hb hby d17_375) rfl rfl ?_
    show Steps p.tables e below (T192.setTop (mkF m 376 #[.val (.int (33 : Int32))] [(.ref b101), (.ref b101)])) _
    refine XS.bipush X192.here hx rfl (hb hby d17_376) ?_
    refine XS.bipush X192.here hx rfl (hb hby d17_378) ?_
    exact k
  obtain ⟨cl195, Ar195, q195, S195, M195, H195, G195⟩ := id fa192
  have hin195 : ¬ ((30 : Int32) < 0 ∨ cl195.slots.size ≤ ((30 : Int32)).toNatClampNeg) := inb_of S195 ⟨by decide, by decide⟩
  obtain ⟨T195, h195, X195, e195, W195, st195⟩ := stC X192 hx hZ e192 Ar195 (j := (30 : Int32)) hin195 (g := (mkF m 380 #[.val (.int (33 : Int32))] [(.int (97 : Int32)), (.int (30 : Int32)), (.ref b101), (.ref b101)])) rfl rfl (hb hby d17_380)
  have fa195 := Arf.set (v := .int (nar .char (97 : Int32))) Ar195 q195 S195 M195 H195 G195 (fits_nar_char (97 : Int32)) W195
  have f196 := Nat.le_trans f193 (Keep.of_wr W195).1
  have f197 := f194.wr W195 (Or.inr gh101)
  have N195 := Fr.snoc X195 N192 gn101
  refine EndsQ.go st195 ?_
  show EndsQ _ _ _ _ _ _ _ (T195.setTop (mkF m 381 #[.val (.int (33 : Int32))] [(.ref b101)]))
  refine EndsQ.go (b := T195.setTop (mkF m 386 #[.val (.int (33 : Int32))] [(.int (122 : Int32)), (.int (31 : Int32)), (.ref b101), (.ref b101)])) (fun t k => ?_) ?_
  · show Steps p.tables e below (T195.setTop (mkF m 381 #[.val (.int (33 : Int32))] [(.ref b101)])) _
    refine XS.dup X195.here hx rfl (hb hby d17_381) rfl rfl ?_
    refine XS.bipush X195.here hx rfl (hb hby d17_382) ?_
    show Steps p.tables e below (T195.setTop (mkF m 384 #[.val (.int (33 : Int32))] [(.int (31 : Int32)), (.ref b101), (.ref b101)])) _
    refine XS.bipush X195.here hx rfl (hb hby d17_384) ?_
    exact k
  obtain ⟨cl198, Ar198, q198, S198, M198, H198, G198⟩ := id fa195
  have hin198 : ¬ ((31 : Int32) < 0 ∨ cl198.slots.size ≤ ((31 : Int32)).toNatClampNeg) := inb_of S198 ⟨by decide, by decide⟩
  obtain ⟨T198, h198, X198, e198, W198, st198⟩ := stC X195 hx hZ e195 Ar198 (j := (31 : Int32)) hin198 (g := (mkF m 386 #[.val (.int (33 : Int32))] [(.int (122 : Int32)), (.int (31 : Int32)), (.ref b101), (.ref b101)])) rfl rfl (hb hby d17_386)
  have fa198 := Arf.set (v := .int (nar .char (122 : Int32))) Ar198 q198 S198 M198 H198 G198 (fits_nar_char (122 : Int32)) W198
  have f199 := Nat.le_trans f196 (Keep.of_wr W198).1
  have f200 := f197.wr W198 (Or.inr gh101)
  have N198 := Fr.snoc X198 N195 gn101
  refine EndsQ.go st198 ?_
  show EndsQ _ _ _ _ _ _ _ (T198.setTop (mkF m 387 #[.val (.int (33 : Int32))] [(.ref b101)]))
  refine EndsQ.go (b := T198.setTop (mkF m 392 #[.val (.int (33 : Int32))] [(.int (48 : Int32)), (.int (32 : Int32)), (.ref b101), (.ref b101)])) (fun t k => ?_) ?_
  · show Steps p.tables e below (T198.setTop (mkF m 387 #[.val (.int (33 : Int32))] [(.ref b101)])) _
    refine XS.dup X198.here hx rfl (hb hby d17_387) rfl rfl ?_
    refine XS.bipush X198.here hx rfl (hb hby d17_388) ?_
    refine XS.bipush X198.here hx rfl (hb hby d17_390) ?_
    show Steps p.tables e below (T198.setTop (mkF m 392 #[.val (.int (33 : Int32))] [(.int (48 : Int32)), (.int (32 : Int32)), (.ref b101), (.ref b101)])) _
    exact k
  obtain ⟨cl201, Ar201, q201, S201, M201, H201, G201⟩ := id fa198
  have hin201 : ¬ ((32 : Int32) < 0 ∨ cl201.slots.size ≤ ((32 : Int32)).toNatClampNeg) := inb_of S201 ⟨by decide, by decide⟩
  obtain ⟨T201, h201, X201, e201, W201, st201⟩ := stC X198 hx hZ e198 Ar201 (j := (32 : Int32)) hin201 (g := (mkF m 392 #[.val (.int (33 : Int32))] [(.int (48 : Int32)), (.int (32 : Int32)), (.ref b101), (.ref b101)])) rfl rfl (hb hby d17_392)
  have fa201 := Arf.set (v := .int (nar .char (48 : Int32))) Ar201 q201 S201 M201 H201 G201 (fits_nar_char (48 : Int32)) W201
  have f202 := Nat.le_trans f199 (Keep.of_wr W201).1
  have f203 := f200.wr W201 (Or.inr gh101)
  have N201 := Fr.snoc X201 N198 gn101
  refine EndsQ.go st201 ?_
  show EndsQ _ _ _ _ _ _ _ (T201.setTop (mkF m 393 #[.val (.int (33 : Int32))] [(.ref b101)]))
  refine EndsQ.retA X201 hx Bd.notSynchronized (w := (.ref b101)) Bd.returns rfl rfl rfl (hb hby d17_393) (by decide) (by decide) ?_
  show QB33 Z h0 n0 (some (.ref b101)) T201.heap _
  rw [e201]
  refine ⟨b101, k101, rfl, N201, f203, gh101, fa201.congr (fun i hi => ?_)⟩
  match i, (show i < 33 from hi) with
  | 0, _ => rfl
  | 1, _ => rfl
  | 2, _ => rfl
  | 3, _ => rfl
  | 4, _ => rfl
  | 5, _ => rfl
  | 6, _ => rfl
  | 7, _ => rfl
  | 8, _ => rfl
  | 9, _ => rfl
  | 10, _ => rfl
  | 11, _ => rfl
  | 12, _ => rfl
  | 13, _ => rfl
  | 14, _ => rfl
  | 15, _ => rfl
  | 16, _ => rfl
  | 17, _ => rfl
  | 18, _ => rfl
  | 19, _ => rfl
  | 20, _ => rfl
  | 21, _ => rfl
  | 22, _ => rfl
  | 23, _ => rfl
  | 24, _ => rfl
  | 25, _ => rfl
  | 26, _ => rfl
  | 27, _ => rfl
  | 28, _ => rfl
  | 29, _ => rfl
  | 30, _ => rfl
  | 31, _ => rfl
  | 32, _ => rfl
  | q + 33, y => exact absurd y (by omega)
theorem ef_B32 (m : MethodId) (x0 : Int32) : entryFrame m #[(.int x0)] 1 = mkF m 0 #[.val (.int x0)] [] := by first | (simp [entryFrame, mkF, argsToLocals, Value.category]; done) | rfl
def QB32 (Z : State)  (h0 : Heap) (n0 : Nat) (v : Option Value) (h : Heap) (L : List Loc) : Prop := ∃ (b : Addr) (kb : ClassId), v = some (.ref b) ∧ Fr n0 L ∧ Keep h0 h [] ∧ h0.size ≤ b ∧ Arf Z h b kb .char (32 : Int32) (own_cv own_base)
set_option maxRecDepth 65536 in
set_option maxHeartbeats 40000000 in
theorem rmB32 (l : Launch) (Z : State) (a0 : Array Value) (hw : ∀ d ∈ tables_1, d.before a0 Z = true) (ws : List Jvm.Cond)  (h0 : Heap) (n0 : Nat) (Z0 : n0 ≤ h0.size) :
    MetFree l (⟨"com/example/lossfall/lossfall/model/CertificateClassIsValidNamePinLaw", "base", "(I)[C"⟩ : MethodName) (head1 (Jvm.Cond.code (⟨"com/example/lossfall/lossfall/model/CertificateClassIsValidNamePinLaw", "base", "(I)[C"⟩ : MethodName) method_4_code 1 (some (.array .char)) :: ws) ({ frames := 0, cells := 1, slots := 33, locals := 0 } : Room)) (fun a U => a = #[(.int (32 : Int32))] ∧ Z.Warmed39 U.vm ∧ U.heap = h0) (fun _ _ _ _ _ => True) (fun _ U o U' => ∃ v L, o = .returned v ∧ QB32 Z h0 n0 v U'.heap L ∧ FrameEnd U o U' L ({ frames := 0, cells := 1, slots := 33, locals := 0 } : Room).cells ({ frames := 0, cells := 1, slots := 33, locals := 0 } : Room).slots) := by
  refine MetFree.of_bodySF (plainFor_of_name pn_17) hisR ?_
  intro p e s m args below meth c s₁ Bd hml0 hP hK
  obtain ⟨rfl, hZ, hh⟩ := hP
  have hx := Bd.exec
  have hby := Bd.bytes
  have hml : c.maxLocals = 1 := hml0
  have hown : s.vm.findClass "com/example/lossfall/lossfall/model/CertificateClassIsValidNamePinLaw" = some m.cls := findClass_of_methodNamed Bd.named
  have hnm := (name_of_methodNamed Bd.named Bd.method).1
  have X0 : Stand p l e ({ frames := 0, cells := 1, slots := 33, locals := 0 } : Room) s m #[(.int (32 : Int32))] below meth c s₁ [] 0 0 := Stand.of_body Bd
  have e0 : s₁.heap = h0 := by rw [← hh, Bd.state]; rfl
  have N0 := Fr.nil n0
  show EndsQ p.tables e below s (fun v h L => QB32 Z h0 n0 v h L) ({ frames := 0, cells := 1, slots := 33, locals := 0 } : Room).cells ({ frames := 0, cells := 1, slots := 33, locals := 0 } : Room).slots _
  refine EndsQ.go (b := s₁.setTop (mkF m 0 #[.val (.int (32 : Int32))] [])) (fun t k => castTop (ef_B32 m (32 : Int32)) k) ?_
  have K0 : Keep h0 h0 [] := Keep.refl _ _
  refine EndsQ.go (b := s₁.setTop (mkF m 396 #[.val (.int (32 : Int32))] [(.int (32 : Int32))])) (fun t k => ?_) ?_
  · show Steps p.tables e below (s₁.setTop (mkF m 0 #[.val (.int (32 : Int32))] [])) _
    refine XS.iloadN X0.here hx rfl (hb hby d17_0) rfl ?_
    refine XS.bipush X0.here hx rfl (hb hby d17_1) ?_
    refine XS.icmpYes X0.here hx rfl (pc0 := 3) (pc' := 191) rfl (hb hby d17_3) rfl (feq (by decide)).2 (by decide) (by decide) ?_
    show Steps p.tables e below (s₁.setTop (mkF m 191 #[.val (.int (32 : Int32))] [])) _
    refine XS.iloadN X0.here hx rfl (hb hby d17_191) rfl ?_
    refine XS.bipush X0.here hx rfl (hb hby d17_192) ?_
    show Steps p.tables e below (s₁.setTop (mkF m 194 #[.val (.int (32 : Int32))] [(.int (33 : Int32)), (.int (32 : Int32))])) _
    refine XS.icmpYes X0.here hx rfl (pc0 := 194) (pc' := 394) rfl (hb hby d17_194) rfl (feq (by decide)).2 (by decide) (by decide) ?_
    show Steps p.tables e below (s₁.setTop (mkF m 394 #[.val (.int (32 : Int32))] [])) _
    refine XS.bipush X0.here hx rfl (hb hby d17_394) ?_
    exact k
  obtain ⟨T101, h101, k101, X101, e101, E101, A101, st101⟩ := newP X0 hx hZ (own_w hw 1 rfl) e0 (g := (mkF m 396 #[.val (.int (32 : Int32))] [(.int (32 : Int32))])) rfl (hb hby d17_396) rfl (by decide) (cap := 32) (by decide) (by decide) (by decide) (by decide)
  obtain ⟨b101, g101⟩ : ∃ z, z = h0.size := ⟨_, rfl⟩
  rw [← g101] at A101 st101
  have gn101 : n0 ≤ b101 := Nat.le_trans Z0 (Nat.le_of_eq g101.symm)
  have gh101 : h0.size ≤ b101 := Nat.le_trans K0.1 (Nat.le_of_eq g101.symm)
  have f102 := Nat.le_trans Z0 E101.1
  have f103 := K0.ext E101
  have f104 : Arf Z h101 b101 k101 .char (32 : Int32) (fun _ => .int (0 : Int32)) := Arf.new A101 (by decide)
  refine EndsQ.go st101 ?_
  show EndsQ _ _ _ _ _ _ _ (T101.setTop (mkF m 398 #[.val (.int (32 : Int32))] [(.ref b101)]))
  refine EndsQ.go (b := T101.setTop (mkF m 402 #[.val (.int (32 : Int32))] [(.int (65 : Int32)), (.int (0 : Int32)), (.ref b101), (.ref b101)])) (fun t k => ?_) ?_
  · show Steps p.tables e below (T101.setTop (mkF m 398 #[.val (.int (32 : Int32))] [(.ref b101)])) _
    refine XS.dup X101.here hx rfl (hb hby d17_398) rfl rfl ?_
    refine XS.iconst X101.here hx rfl (hb hby d17_399) ?_
    refine XS.bipush X101.here hx rfl (hb hby d17_400) ?_
    show Steps p.tables e below (T101.setTop (mkF m 402 #[.val (.int (32 : Int32))] [(.int (65 : Int32)), (.int (0 : Int32)), (.ref b101), (.ref b101)])) _
    exact k
  obtain ⟨cl105, Ar105, q105, S105, M105, H105, G105⟩ := id f104
  have hin105 : ¬ ((0 : Int32) < 0 ∨ cl105.slots.size ≤ ((0 : Int32)).toNatClampNeg) := inb_of S105 ⟨by decide, by decide⟩
  obtain ⟨T105, h105, X105, e105, W105, st105⟩ := stC X101 hx hZ e101 Ar105 (j := (0 : Int32)) hin105 (g := (mkF m 402 #[.val (.int (32 : Int32))] [(.int (65 : Int32)), (.int (0 : Int32)), (.ref b101), (.ref b101)])) rfl rfl (hb hby d17_402)
  have fa105 := Arf.set (v := .int (nar .char (65 : Int32))) Ar105 q105 S105 M105 H105 G105 (fits_nar_char (65 : Int32)) W105
  have f106 := Nat.le_trans f102 (Keep.of_wr W105).1
  have f107 := f103.wr W105 (Or.inr gh101)
  have N105 := Fr.snoc X105 N0 gn101
  refine EndsQ.go st105 ?_
  show EndsQ _ _ _ _ _ _ _ (T105.setTop (mkF m 403 #[.val (.int (32 : Int32))] [(.ref b101)]))
  refine EndsQ.go (b := T105.setTop (mkF m 407 #[.val (.int (32 : Int32))] [(.int (90 : Int32)), (.int (1 : Int32)), (.ref b101), (.ref b101)])) (fun t k => ?_) ?_
  · show Steps p.tables e below (T105.setTop (mkF m 403 #[.val (.int (32 : Int32))] [(.ref b101)])) _
    refine XS.dup X105.here hx rfl (hb hby d17_403) rfl rfl ?_
    refine XS.iconst X105.here hx rfl (hb hby d17_404) ?_
    refine XS.bipush X105.here hx rfl (hb hby d17_405) ?_
    exact k
  obtain ⟨cl108, Ar108, q108, S108, M108, H108, G108⟩ := id fa105
  have hin108 : ¬ ((1 : Int32) < 0 ∨ cl108.slots.size ≤ ((1 : Int32)).toNatClampNeg) := inb_of S108 ⟨by decide, by decide⟩
  obtain ⟨T108, h108, X108, e108, W108, st108⟩ := stC X105 hx hZ e105 Ar108 (j := (1 : Int32)) hin108 (g := (mkF m 407 #[.val (.int (32 : Int32))] [(.int (90 : Int32)), (.int (1 : Int32)), (.ref b101), (.ref b101)])) rfl rfl (hb hby d17_407)
  have fa108 := Arf.set (v := .int (nar .char (90 : Int32))) Ar108 q108 S108 M108 H108 G108 (fits_nar_char (90 : Int32)) W108
  have f109 := Nat.le_trans f106 (Keep.of_wr W108).1
  have f110 := f107.wr W108 (Or.inr gh101)
  have N108 := Fr.snoc X108 N105 gn101
  refine EndsQ.go st108 ?_
  show EndsQ _ _ _ _ _ _ _ (T108.setTop (mkF m 408 #[.val (.int (32 : Int32))] [(.ref b101)]))
  refine EndsQ.go (b := T108.setTop (mkF m 412 #[.val (.int (32 : Int32))] [(.int (97 : Int32)), (.int (2 : Int32)), (.ref b101), (.ref b101)])) (fun t k => ?_) ?_
  · show Steps p.tables e below (T108.setTop (mkF m 408 #[.val (.int (32 : Int32))] [(.ref b101)])) _
    refine XS.dup X108.here hx rfl (hb hby d17_408) rfl rfl ?_
    show Steps p.tables e below (T108.setTop (mkF m 409 #[.val (.int (32 : Int32))] [(.ref b101), (.ref b101)])) _
    refine XS.iconst X108.here hx rfl (hb hby d17_409) ?_
    refine XS.bipush X108.here hx rfl (hb hby d17_410) ?_
    exact k
  obtain ⟨cl111, Ar111, q111, S111, M111, H111, G111⟩ := id fa108
  have hin111 : ¬ ((2 : Int32) < 0 ∨ cl111.slots.size ≤ ((2 : Int32)).toNatClampNeg) := inb_of S111 ⟨by decide, by decide⟩
  obtain ⟨T111, h111, X111, e111, W111, st111⟩ := stC X108 hx hZ e108 Ar111 (j := (2 : Int32)) hin111 (g := (mkF m 412 #[.val (.int (32 : Int32))] [(.int (97 : Int32)), (.int (2 : Int32)), (.ref b101), (.ref b101)])) rfl rfl (hb hby d17_412)
  have fa111 := Arf.set (v := .int (nar .char (97 : Int32))) Ar111 q111 S111 M111 H111 G111 (fits_nar_char (97 : Int32)) W111
  have f112 := Nat.le_trans f109 (Keep.of_wr W111).1
  have f113 := f110.wr W111 (Or.inr gh101)
  have N111 := Fr.snoc X111 N108 gn101
  refine EndsQ.go st111 ?_
  show EndsQ _ _ _ _ _ _ _ (T111.setTop (mkF m 413 #[.val (.int (32 : Int32))] [(.ref b101)]))
  refine EndsQ.go (b := T111.setTop (mkF m 417 #[.val (.int (32 : Int32))] [(.int (122 : Int32)), (.int (3 : Int32)), (.ref b101), (.ref b101)])) (fun t k => ?_) ?_
  · show Steps p.tables e below (T111.setTop (mkF m 413 #[.val (.int (32 : Int32))] [(.ref b101)])) _
    refine XS.dup X111.here hx rfl (hb hby d17_413) rfl rfl ?_
    refine XS.iconst X111.here hx rfl (hb hby d17_414) ?_
    show Steps p.tables e below (T111.setTop (mkF m 415 #[.val (.int (32 : Int32))] [(.int (3 : Int32)), (.ref b101), (.ref b101)])) _
    refine XS.bipush X111.here hx rfl (hb hby d17_415) ?_
    exact k
  obtain ⟨cl114, Ar114, q114, S114, M114, H114, G114⟩ := id fa111
  have hin114 : ¬ ((3 : Int32) < 0 ∨ cl114.slots.size ≤ ((3 : Int32)).toNatClampNeg) := inb_of S114 ⟨by decide, by decide⟩
  obtain ⟨T114, h114, X114, e114, W114, st114⟩ := stC X111 hx hZ e111 Ar114 (j := (3 : Int32)) hin114 (g := (mkF m 417 #[.val (.int (32 : Int32))] [(.int (122 : Int32)), (.int (3 : Int32)), (.ref b101), (.ref b101)])) rfl rfl (hb hby d17_417)
  have fa114 := Arf.set (v := .int (nar .char (122 : Int32))) Ar114 q114 S114 M114 H114 G114 (fits_nar_char (122 : Int32)) W114
  have f115 := Nat.le_trans f112 (Keep.of_wr W114).1
  have f116 := f113.wr W114 (Or.inr gh101)
  have N114 := Fr.snoc X114 N111 gn101
  refine EndsQ.go st114 ?_
  show EndsQ _ _ _ _ _ _ _ (T114.setTop (mkF m 418 #[.val (.int (32 : Int32))] [(.ref b101)]))
  refine EndsQ.go (b := T114.setTop (mkF m 422 #[.val (.int (32 : Int32))] [(.int (48 : Int32)), (.int (4 : Int32)), (.ref b101), (.ref b101)])) (fun t k => ?_) ?_
  · show Steps p.tables e below (T114.setTop (mkF m 418 #[.val (.int (32 : Int32))] [(.ref b101)])) _
    refine XS.dup X114.here hx rfl (hb hby d17_418) rfl rfl ?_
    refine XS.iconst X114.here hx rfl (hb hby d17_419) ?_
    refine XS.bipush X114.here hx rfl (hb hby d17_420) ?_
    show Steps p.tables e below (T114.setTop (mkF m 422 #[.val (.int (32 : Int32))] [(.int (48 : Int32)), (.int (4 : Int32)), (.ref b101), (.ref b101)])) _
    exact k
  obtain ⟨cl117, Ar117, q117, S117, M117, H117, G117⟩ := id fa114
  have hin117 : ¬ ((4 : Int32) < 0 ∨ cl117.slots.size ≤ ((4 : Int32)).toNatClampNeg) := inb_of S117 ⟨by decide, by decide⟩
  obtain ⟨T117, h117, X117, e117, W117, st117⟩ := stC X114 hx hZ e114 Ar117 (j := (4 : Int32)) hin117 (g := (mkF m 422 #[.val (.int (32 : Int32))] [(.int (48 : Int32)), (.int (4 : Int32)), (.ref b101), (.ref b101)])) rfl rfl (hb hby d17_422)
  have fa117 := Arf.set (v := .int (nar .char (48 : Int32))) Ar117 q117 S117 M117 H117 G117 (fits_nar_char (48 : Int32)) W117
  have f118 := Nat.le_trans f115 (Keep.of_wr W117).1
  have f119 := f116.wr W117 (Or.inr gh101)
  have N117 := Fr.snoc X117 N114 gn101
  refine EndsQ.go st117 ?_
  show EndsQ _ _ _ _ _ _ _ (T117.setTop (mkF m 423 #[.val (.int (32 : Int32))] [(.ref b101)]))
  refine EndsQ.go (b := T117.setTop (mkF m 427 #[.val (.int (32 : Int32))] [(.int (57 : Int32)), (.int (5 : Int32)), (.ref b101), (.ref b101)])) (fun t k => ?_) ?_
  · show Steps p.tables e below (T117.setTop (mkF m 423 #[.val (.int (32 : Int32))] [(.ref b101)])) _
    refine XS.dup X117.here hx rfl (hb hby d17_423) rfl rfl ?_
    refine XS.iconst X117.here hx rfl (hb hby d17_424) ?_
    refine XS.bipush X117.here hx rfl (hb hby d17_425) ?_
    exact k
  obtain ⟨cl120, Ar120, q120, S120, M120, H120, G120⟩ := id fa117
  have hin120 : ¬ ((5 : Int32) < 0 ∨ cl120.slots.size ≤ ((5 : Int32)).toNatClampNeg) := inb_of S120 ⟨by decide, by decide⟩
  obtain ⟨T120, h120, X120, e120, W120, st120⟩ := stC X117 hx hZ e117 Ar120 (j := (5 : Int32)) hin120 (g := (mkF m 427 #[.val (.int (32 : Int32))] [(.int (57 : Int32)), (.int (5 : Int32)), (.ref b101), (.ref b101)])) rfl rfl (hb hby d17_427)
  have fa120 := Arf.set (v := .int (nar .char (57 : Int32))) Ar120 q120 S120 M120 H120 G120 (fits_nar_char (57 : Int32)) W120
  have f121 := Nat.le_trans f118 (Keep.of_wr W120).1
  have f122 := f119.wr W120 (Or.inr gh101)
  have N120 := Fr.snoc X120 N117 gn101
  refine EndsQ.go st120 ?_
  show EndsQ _ _ _ _ _ _ _ (T120.setTop (mkF m 428 #[.val (.int (32 : Int32))] [(.ref b101)]))
  refine EndsQ.go (b := T120.setTop (mkF m 433 #[.val (.int (32 : Int32))] [(.int (45 : Int32)), (.int (6 : Int32)), (.ref b101), (.ref b101)])) (fun t k => ?_) ?_
  · show Steps p.tables e below (T120.setTop (mkF m 428 #[.val (.int (32 : Int32))] [(.ref b101)])) _
    refine XS.dup X120.here hx rfl (hb hby d17_428) rfl rfl ?_
    show Steps p.tables e below (T120.setTop (mkF m 429 #[.val (.int (32 : Int32))] [(.ref b101), (.ref b101)])) _
    refine XS.bipush X120.here hx rfl (hb hby d17_429) ?_
    refine XS.bipush X120.here hx rfl (hb hby d17_431) ?_
    exact k
  obtain ⟨cl123, Ar123, q123, S123, M123, H123, G123⟩ := id fa120
  have hin123 : ¬ ((6 : Int32) < 0 ∨ cl123.slots.size ≤ ((6 : Int32)).toNatClampNeg) := inb_of S123 ⟨by decide, by decide⟩
  obtain ⟨T123, h123, X123, e123, W123, st123⟩ := stC X120 hx hZ e120 Ar123 (j := (6 : Int32)) hin123 (g := (mkF m 433 #[.val (.int (32 : Int32))] [(.int (45 : Int32)), (.int (6 : Int32)), (.ref b101), (.ref b101)])) rfl rfl (hb hby d17_433)
  have fa123 := Arf.set (v := .int (nar .char (45 : Int32))) Ar123 q123 S123 M123 H123 G123 (fits_nar_char (45 : Int32)) W123
  have f124 := Nat.le_trans f121 (Keep.of_wr W123).1
  have f125 := f122.wr W123 (Or.inr gh101)
  have N123 := Fr.snoc X123 N120 gn101
  refine EndsQ.go st123 ?_
  show EndsQ _ _ _ _ _ _ _ (T123.setTop (mkF m 434 #[.val (.int (32 : Int32))] [(.ref b101)]))
  refine EndsQ.go (b := T123.setTop (mkF m 439 #[.val (.int (32 : Int32))] [(.int (65 : Int32)), (.int (7 : Int32)), (.ref b101), (.ref b101)])) (fun t k => ?_) ?_
  · show Steps p.tables e below (T123.setTop (mkF m 434 #[.val (.int (32 : Int32))] [(.ref b101)])) _
    refine XS.dup X123.here hx rfl (hb hby d17_434) rfl rfl ?_
    refine XS.bipush X123.here hx rfl (hb hby d17_435) ?_
    show Steps p.tables e below (T123.setTop (mkF m 437 #[.val (.int (32 : Int32))] [(.int (7 : Int32)), (.ref b101), (.ref b101)])) _
    refine XS.bipush X123.here hx rfl (hb hby d17_437) ?_
    exact k
  obtain ⟨cl126, Ar126, q126, S126, M126, H126, G126⟩ := id fa123
  have hin126 : ¬ ((7 : Int32) < 0 ∨ cl126.slots.size ≤ ((7 : Int32)).toNatClampNeg) := inb_of S126 ⟨by decide, by decide⟩
  obtain ⟨T126, h126, X126, e126, W126, st126⟩ := stC X123 hx hZ e123 Ar126 (j := (7 : Int32)) hin126 (g := (mkF m 439 #[.val (.int (32 : Int32))] [(.int (65 : Int32)), (.int (7 : Int32)), (.ref b101), (.ref b101)])) rfl rfl (hb hby d17_439)
  have fa126 := Arf.set (v := .int (nar .char (65 : Int32))) Ar126 q126 S126 M126 H126 G126 (fits_nar_char (65 : Int32)) W126
  have f127 := Nat.le_trans f124 (Keep.of_wr W126).1
  have f128 := f125.wr W126 (Or.inr gh101)
  have N126 := Fr.snoc X126 N123 gn101
  refine EndsQ.go st126 ?_
  show EndsQ _ _ _ _ _ _ _ (T126.setTop (mkF m 440 #[.val (.int (32 : Int32))] [(.ref b101)]))
  refine EndsQ.go (b := T126.setTop (mkF m 445 #[.val (.int (32 : Int32))] [(.int (90 : Int32)), (.int (8 : Int32)), (.ref b101), (.ref b101)])) (fun t k => ?_) ?_
  · show Steps p.tables e below (T126.setTop (mkF m 440 #[.val (.int (32 : Int32))] [(.ref b101)])) _
    refine XS.dup X126.here hx rfl (hb hby d17_440) rfl rfl ?_
    refine XS.bipush X126.here hx rfl (hb hby d17_441) ?_
    refine XS.bipush X126.here hx rfl (hb hby d17_443) ?_
    show Steps p.tables e below (T126.setTop (mkF m 445 #[.val (.int (32 : Int32))] [(.int (90 : Int32)), (.int (8 : Int32)), (.ref b101), (.ref b101)])) _
    exact k
  obtain ⟨cl129, Ar129, q129, S129, M129, H129, G129⟩ := id fa126
  have hin129 : ¬ ((8 : Int32) < 0 ∨ cl129.slots.size ≤ ((8 : Int32)).toNatClampNeg) := inb_of S129 ⟨by decide, by decide⟩
  obtain ⟨T129, h129, X129, e129, W129, st129⟩ := stC X126 hx hZ e126 Ar129 (j := (8 : Int32)) hin129 (g := (mkF m 445 #[.val (.int (32 : Int32))] [(.int (90 : Int32)), (.int (8 : Int32)), (.ref b101), (.ref b101)])) rfl rfl (hb hby d17_445)
  have fa129 := Arf.set (v := .int (nar .char (90 : Int32))) Ar129 q129 S129 M129 H129 G129 (fits_nar_char (90 : Int32)) W129
  have f130 := Nat.le_trans f127 (Keep.of_wr W129).1
  have f131 := f128.wr W129 (Or.inr gh101)
  have N129 := Fr.snoc X129 N126 gn101
  refine EndsQ.go st129 ?_
  show EndsQ _ _ _ _ _ _ _ (T129.setTop (mkF m 446 #[.val (.int (32 : Int32))] [(.ref b101)]))
  refine EndsQ.go (b := T129.setTop (mkF m 451 #[.val (.int (32 : Int32))] [(.int (97 : Int32)), (.int (9 : Int32)), (.ref b101), (.ref b101)])) (fun t k => ?_) ?_
  · show Steps p.tables e below (T129.setTop (mkF m 446 #[.val (.int (32 : Int32))] [(.ref b101)])) _
    refine XS.dup X129.here hx rfl (hb hby d17_446) rfl rfl ?_
    refine XS.bipush X129.here hx rfl (hb hby d17_447) ?_
    refine XS.bipush X129.here hx rfl (hb hby d17_449) ?_
    exact k
  obtain ⟨cl132, Ar132, q132, S132, M132, H132, G132⟩ := id fa129
  have hin132 : ¬ ((9 : Int32) < 0 ∨ cl132.slots.size ≤ ((9 : Int32)).toNatClampNeg) := inb_of S132 ⟨by decide, by decide⟩
  obtain ⟨T132, h132, X132, e132, W132, st132⟩ := stC X129 hx hZ e129 Ar132 (j := (9 : Int32)) hin132 (g := (mkF m 451 #[.val (.int (32 : Int32))] [(.int (97 : Int32)), (.int (9 : Int32)), (.ref b101), (.ref b101)])) rfl rfl (hb hby d17_451)
  have fa132 := Arf.set (v := .int (nar .char (97 : Int32))) Ar132 q132 S132 M132 H132 G132 (fits_nar_char (97 : Int32)) W132
  have f133 := Nat.le_trans f130 (Keep.of_wr W132).1
  have f134 := f131.wr W132 (Or.inr gh101)
  have N132 := Fr.snoc X132 N129 gn101
  refine EndsQ.go st132 ?_
  show EndsQ _ _ _ _ _ _ _ (T132.setTop (mkF m 452 #[.val (.int (32 : Int32))] [(.ref b101)]))
  refine EndsQ.go (b := T132.setTop (mkF m 457 #[.val (.int (32 : Int32))] [(.int (122 : Int32)), (.int (10 : Int32)), (.ref b101), (.ref b101)])) (fun t k => ?_) ?_
  · show Steps p.tables e below (T132.setTop (mkF m 452 #[.val (.int (32 : Int32))] [(.ref b101)])) _
    refine XS.dup X132.here hx rfl (hb hby d17_452) rfl rfl ?_
    show Steps p.tables e below (T132.setTop (mkF m 453 #[.val (.int (32 : Int32))] [(.ref b101), (.ref b101)])) _
    refine XS.bipush X132.here hx rfl (hb hby d17_453) ?_
    refine XS.bipush X132.here hx rfl (hb hby d17_455) ?_
    exact k
  obtain ⟨cl135, Ar135, q135, S135, M135, H135, G135⟩ := id fa132
  have hin135 : ¬ ((10 : Int32) < 0 ∨ cl135.slots.size ≤ ((10 : Int32)).toNatClampNeg) := inb_of S135 ⟨by decide, by decide⟩
  obtain ⟨T135, h135, X135, e135, W135, st135⟩ := stC X132 hx hZ e132 Ar135 (j := (10 : Int32)) hin135 (g := (mkF m 457 #[.val (.int (32 : Int32))] [(.int (122 : Int32)), (.int (10 : Int32)), (.ref b101), (.ref b101)])) rfl rfl (hb hby d17_457)
  have fa135 := Arf.set (v := .int (nar .char (122 : Int32))) Ar135 q135 S135 M135 H135 G135 (fits_nar_char (122 : Int32)) W135
  have f136 := Nat.le_trans f133 (Keep.of_wr W135).1
  have f137 := f134.wr W135 (Or.inr gh101)
  have N135 := Fr.snoc X135 N132 gn101
  refine EndsQ.go st135 ?_
  show EndsQ _ _ _ _ _ _ _ (T135.setTop (mkF m 458 #[.val (.int (32 : Int32))] [(.ref b101)]))
  refine EndsQ.go (b := T135.setTop (mkF m 463 #[.val (.int (32 : Int32))] [(.int (48 : Int32)), (.int (11 : Int32)), (.ref b101), (.ref b101)])) (fun t k => ?_) ?_
  · show Steps p.tables e below (T135.setTop (mkF m 458 #[.val (.int (32 : Int32))] [(.ref b101)])) _
    refine XS.dup X135.here hx rfl (hb hby d17_458) rfl rfl ?_
    refine XS.bipush X135.here hx rfl (hb hby d17_459) ?_
    show Steps p.tables e below (T135.setTop (mkF m 461 #[.val (.int (32 : Int32))] [(.int (11 : Int32)), (.ref b101), (.ref b101)])) _
    refine XS.bipush X135.here hx rfl (hb hby d17_461) ?_
    exact k
  obtain ⟨cl138, Ar138, q138, S138, M138, H138, G138⟩ := id fa135
  have hin138 : ¬ ((11 : Int32) < 0 ∨ cl138.slots.size ≤ ((11 : Int32)).toNatClampNeg) := inb_of S138 ⟨by decide, by decide⟩
  obtain ⟨T138, h138, X138, e138, W138, st138⟩ := stC X135 hx hZ e135 Ar138 (j := (11 : Int32)) hin138 (g := (mkF m 463 #[.val (.int (32 : Int32))] [(.int (48 : Int32)), (.int (11 : Int32)), (.ref b101), (.ref b101)])) rfl rfl (hb hby d17_463)
  have fa138 := Arf.set (v := .int (nar .char (48 : Int32))) Ar138 q138 S138 M138 H138 G138 (fits_nar_char (48 : Int32)) W138
  have f139 := Nat.le_trans f136 (Keep.of_wr W138).1
  have f140 := f137.wr W138 (Or.inr gh101)
  have N138 := Fr.snoc X138 N135 gn101
  refine EndsQ.go st138 ?_
  show EndsQ _ _ _ _ _ _ _ (T138.setTop (mkF m 464 #[.val (.int (32 : Int32))] [(.ref b101)]))
  refine EndsQ.go (b := T138.setTop (mkF m 469 #[.val (.int (32 : Int32))] [(.int (57 : Int32)), (.int (12 : Int32)), (.ref b101), (.ref b101)])) (fun t k => ?_) ?_
  · show Steps p.tables e below (T138.setTop (mkF m 464 #[.val (.int (32 : Int32))] [(.ref b101)])) _
    refine XS.dup X138.here hx rfl (hb hby d17_464) rfl rfl ?_
    refine XS.bipush X138.here hx rfl (hb hby d17_465) ?_
    refine XS.bipush X138.here hx rfl (hb hby d17_467) ?_
    show Steps p.tables e below (T138.setTop (mkF m 469 #[.val (.int (32 : Int32))] [(.int (57 : Int32)), (.int (12 : Int32)), (.ref b101), (.ref b101)])) _
    exact k
  obtain ⟨cl141, Ar141, q141, S141, M141, H141, G141⟩ := id fa138
  have hin141 : ¬ ((12 : Int32) < 0 ∨ cl141.slots.size ≤ ((12 : Int32)).toNatClampNeg) := inb_of S141 ⟨by decide, by decide⟩
  obtain ⟨T141, h141, X141, e141, W141, st141⟩ := stC X138 hx hZ e138 Ar141 (j := (12 : Int32)) hin141 (g := (mkF m 469 #[.val (.int (32 : Int32))] [(.int (57 : Int32)), (.int (12 : Int32)), (.ref b101), (.ref b101)])) rfl rfl (hb hby d17_469)
  have fa141 := Arf.set (v := .int (nar .char (57 : Int32))) Ar141 q141 S141 M141 H141 G141 (fits_nar_char (57 : Int32)) W141
  have f142 := Nat.le_trans f139 (Keep.of_wr W141).1
  have f143 := f140.wr W141 (Or.inr gh101)
  have N141 := Fr.snoc X141 N138 gn101
  refine EndsQ.go st141 ?_
  show EndsQ _ _ _ _ _ _ _ (T141.setTop (mkF m 470 #[.val (.int (32 : Int32))] [(.ref b101)]))
  refine EndsQ.go (b := T141.setTop (mkF m 475 #[.val (.int (32 : Int32))] [(.int (45 : Int32)), (.int (13 : Int32)), (.ref b101), (.ref b101)])) (fun t k => ?_) ?_
  · show Steps p.tables e below (T141.setTop (mkF m 470 #[.val (.int (32 : Int32))] [(.ref b101)])) _
    refine XS.dup X141.here hx rfl (hb hby d17_470) rfl rfl ?_
    refine XS.bipush X141.here hx rfl (hb hby d17_471) ?_
    refine XS.bipush X141.here hx rfl (hb hby d17_473) ?_
    exact k
  obtain ⟨cl144, Ar144, q144, S144, M144, H144, G144⟩ := id fa141
  have hin144 : ¬ ((13 : Int32) < 0 ∨ cl144.slots.size ≤ ((13 : Int32)).toNatClampNeg) := inb_of S144 ⟨by decide, by decide⟩
  obtain ⟨T144, h144, X144, e144, W144, st144⟩ := stC X141 hx hZ e141 Ar144 (j := (13 : Int32)) hin144 (g := (mkF m 475 #[.val (.int (32 : Int32))] [(.int (45 : Int32)), (.int (13 : Int32)), (.ref b101), (.ref b101)])) rfl rfl (hb hby d17_475)
  have fa144 := Arf.set (v := .int (nar .char (45 : Int32))) Ar144 q144 S144 M144 H144 G144 (fits_nar_char (45 : Int32)) W144
  have f145 := Nat.le_trans f142 (Keep.of_wr W144).1
  have f146 := f143.wr W144 (Or.inr gh101)
  have N144 := Fr.snoc X144 N141 gn101
  refine EndsQ.go st144 ?_
  show EndsQ _ _ _ _ _ _ _ (T144.setTop (mkF m 476 #[.val (.int (32 : Int32))] [(.ref b101)]))
  refine EndsQ.go (b := T144.setTop (mkF m 481 #[.val (.int (32 : Int32))] [(.int (65 : Int32)), (.int (14 : Int32)), (.ref b101), (.ref b101)])) (fun t k => ?_) ?_
  · show Steps p.tables e below (T144.setTop (mkF m 476 #[.val (.int (32 : Int32))] [(.ref b101)])) _
    refine XS.dup X144.here hx rfl (hb hby d17_476) rfl rfl ?_
    show Steps p.tables e below (T144.setTop (mkF m 477 #[.val (.int (32 : Int32))] [(.ref b101), (.ref b101)])) _
    refine XS.bipush X144.here hx rfl (hb hby d17_477) ?_
    refine XS.bipush X144.here hx rfl (hb hby d17_479) ?_
    exact k
  obtain ⟨cl147, Ar147, q147, S147, M147, H147, G147⟩ := id fa144
  have hin147 : ¬ ((14 : Int32) < 0 ∨ cl147.slots.size ≤ ((14 : Int32)).toNatClampNeg) := inb_of S147 ⟨by decide, by decide⟩
  obtain ⟨T147, h147, X147, e147, W147, st147⟩ := stC X144 hx hZ e144 Ar147 (j := (14 : Int32)) hin147 (g := (mkF m 481 #[.val (.int (32 : Int32))] [(.int (65 : Int32)), (.int (14 : Int32)), (.ref b101), (.ref b101)])) rfl rfl (hb hby d17_481)
  have fa147 := Arf.set (v := .int (nar .char (65 : Int32))) Ar147 q147 S147 M147 H147 G147 (fits_nar_char (65 : Int32)) W147
  have f148 := Nat.le_trans f145 (Keep.of_wr W147).1
  have f149 := f146.wr W147 (Or.inr gh101)
  have N147 := Fr.snoc X147 N144 gn101
  refine EndsQ.go st147 ?_
  show EndsQ _ _ _ _ _ _ _ (T147.setTop (mkF m 482 #[.val (.int (32 : Int32))] [(.ref b101)]))
  refine EndsQ.go (b := T147.setTop (mkF m 487 #[.val (.int (32 : Int32))] [(.int (90 : Int32)), (.int (15 : Int32)), (.ref b101), (.ref b101)])) (fun t k => ?_) ?_
  · show Steps p.tables e below (T147.setTop (mkF m 482 #[.val (.int (32 : Int32))] [(.ref b101)])) _
    refine XS.dup X147.here hx rfl (hb hby d17_482) rfl rfl ?_
    refine XS.bipush X147.here hx rfl (hb hby d17_483) ?_
    show Steps p.tables e below (T147.setTop (mkF m 485 #[.val (.int (32 : Int32))] [(.int (15 : Int32)), (.ref b101), (.ref b101)])) _
    refine XS.bipush X147.here hx rfl (hb hby d17_485) ?_
    exact k
  obtain ⟨cl150, Ar150, q150, S150, M150, H150, G150⟩ := id fa147
  have hin150 : ¬ ((15 : Int32) < 0 ∨ cl150.slots.size ≤ ((15 : Int32)).toNatClampNeg) := inb_of S150 ⟨by decide, by decide⟩
  obtain ⟨T150, h150, X150, e150, W150, st150⟩ := stC X147 hx hZ e147 Ar150 (j := (15 : Int32)) hin150 (g := (mkF m 487 #[.val (.int (32 : Int32))] [(.int (90 : Int32)), (.int (15 : Int32)), (.ref b101), (.ref b101)])) rfl rfl (hb hby d17_487)
  have fa150 := Arf.set (v := .int (nar .char (90 : Int32))) Ar150 q150 S150 M150 H150 G150 (fits_nar_char (90 : Int32)) W150
  have f151 := Nat.le_trans f148 (Keep.of_wr W150).1
  have f152 := f149.wr W150 (Or.inr gh101)
  have N150 := Fr.snoc X150 N147 gn101
  refine EndsQ.go st150 ?_
  show EndsQ _ _ _ _ _ _ _ (T150.setTop (mkF m 488 #[.val (.int (32 : Int32))] [(.ref b101)]))
  refine EndsQ.go (b := T150.setTop (mkF m 493 #[.val (.int (32 : Int32))] [(.int (97 : Int32)), (.int (16 : Int32)), (.ref b101), (.ref b101)])) (fun t k => ?_) ?_
  · show Steps p.tables e below (T150.setTop (mkF m 488 #[.val (.int (32 : Int32))] [(.ref b101)])) _
    refine XS.dup X150.here hx rfl (hb hby d17_488) rfl rfl ?_
    refine XS.bipush X150.here hx rfl (hb hby d17_489) ?_
    refine XS.bipush X150.here hx rfl (hb hby d17_491) ?_
    show Steps p.tables e below (T150.setTop (mkF m 493 #[.val (.int (32 : Int32))] [(.int (97 : Int32)), (.int (16 : Int32)), (.ref b101), (.ref b101)])) _
    exact k
  obtain ⟨cl153, Ar153, q153, S153, M153, H153, G153⟩ := id fa150
  have hin153 : ¬ ((16 : Int32) < 0 ∨ cl153.slots.size ≤ ((16 : Int32)).toNatClampNeg) := inb_of S153 ⟨by decide, by decide⟩
  obtain ⟨T153, h153, X153, e153, W153, st153⟩ := stC X150 hx hZ e150 Ar153 (j := (16 : Int32)) hin153 (g := (mkF m 493 #[.val (.int (32 : Int32))] [(.int (97 : Int32)), (.int (16 : Int32)), (.ref b101), (.ref b101)])) rfl rfl (hb hby d17_493)
  have fa153 := Arf.set (v := .int (nar .char (97 : Int32))) Ar153 q153 S153 M153 H153 G153 (fits_nar_char (97 : Int32)) W153
  have f154 := Nat.le_trans f151 (Keep.of_wr W153).1
  have f155 := f152.wr W153 (Or.inr gh101)
  have N153 := Fr.snoc X153 N150 gn101
  refine EndsQ.go st153 ?_
  show EndsQ _ _ _ _ _ _ _ (T153.setTop (mkF m 494 #[.val (.int (32 : Int32))] [(.ref b101)]))
  refine EndsQ.go (b := T153.setTop (mkF m 499 #[.val (.int (32 : Int32))] [(.int (122 : Int32)), (.int (17 : Int32)), (.ref b101), (.ref b101)])) (fun t k => ?_) ?_
  · show Steps p.tables e below (T153.setTop (mkF m 494 #[.val (.int (32 : Int32))] [(.ref b101)])) _
    refine XS.dup X153.here hx rfl (hb hby d17_494) rfl rfl ?_
    refine XS.bipush X153.here hx rfl (hb hby d17_495) ?_
    refine XS.bipush X153.here hx rfl (hb hby d17_497) ?_
    exact k
  obtain ⟨cl156, Ar156, q156, S156, M156, H156, G156⟩ := id fa153
  have hin156 : ¬ ((17 : Int32) < 0 ∨ cl156.slots.size ≤ ((17 : Int32)).toNatClampNeg) := inb_of S156 ⟨by decide, by decide⟩
  obtain ⟨T156, h156, X156, e156, W156, st156⟩ := stC X153 hx hZ e153 Ar156 (j := (17 : Int32)) hin156 (g := (mkF m 499 #[.val (.int (32 : Int32))] [(.int (122 : Int32)), (.int (17 : Int32)), (.ref b101), (.ref b101)])) rfl rfl (hb hby d17_499)
  have fa156 := Arf.set (v := .int (nar .char (122 : Int32))) Ar156 q156 S156 M156 H156 G156 (fits_nar_char (122 : Int32)) W156
  have f157 := Nat.le_trans f154 (Keep.of_wr W156).1
  have f158 := f155.wr W156 (Or.inr gh101)
  have N156 := Fr.snoc X156 N153 gn101
  refine EndsQ.go st156 ?_
  show EndsQ _ _ _ _ _ _ _ (T156.setTop (mkF m 500 #[.val (.int (32 : Int32))] [(.ref b101)]))
  refine EndsQ.go (b := T156.setTop (mkF m 505 #[.val (.int (32 : Int32))] [(.int (48 : Int32)), (.int (18 : Int32)), (.ref b101), (.ref b101)])) (fun t k => ?_) ?_
  · show Steps p.tables e below (T156.setTop (mkF m 500 #[.val (.int (32 : Int32))] [(.ref b101)])) _
    refine XS.dup X156.here hx rfl (hb hby d17_500) rfl rfl ?_
    show Steps p.tables e below (T156.setTop (mkF m 501 #[.val (.int (32 : Int32))] [(.ref b101), (.ref b101)])) _
    refine XS.bipush X156.here hx rfl (hb hby d17_501) ?_
    refine XS.bipush X156.here hx rfl (hb hby d17_503) ?_
    exact k
  obtain ⟨cl159, Ar159, q159, S159, M159, H159, G159⟩ := id fa156
  have hin159 : ¬ ((18 : Int32) < 0 ∨ cl159.slots.size ≤ ((18 : Int32)).toNatClampNeg) := inb_of S159 ⟨by decide, by decide⟩
  obtain ⟨T159, h159, X159, e159, W159, st159⟩ := stC X156 hx hZ e156 Ar159 (j := (18 : Int32)) hin159 (g := (mkF m 505 #[.val (.int (32 : Int32))] [(.int (48 : Int32)), (.int (18 : Int32)), (.ref b101), (.ref b101)])) rfl rfl (hb hby d17_505)
  have fa159 := Arf.set (v := .int (nar .char (48 : Int32))) Ar159 q159 S159 M159 H159 G159 (fits_nar_char (48 : Int32)) W159
  have f160 := Nat.le_trans f157 (Keep.of_wr W159).1
  have f161 := f158.wr W159 (Or.inr gh101)
  have N159 := Fr.snoc X159 N156 gn101
  refine EndsQ.go st159 ?_
  show EndsQ _ _ _ _ _ _ _ (T159.setTop (mkF m 506 #[.val (.int (32 : Int32))] [(.ref b101)]))
  refine EndsQ.go (b := T159.setTop (mkF m 511 #[.val (.int (32 : Int32))] [(.int (57 : Int32)), (.int (19 : Int32)), (.ref b101), (.ref b101)])) (fun t k => ?_) ?_
  · show Steps p.tables e below (T159.setTop (mkF m 506 #[.val (.int (32 : Int32))] [(.ref b101)])) _
    refine XS.dup X159.here hx rfl (hb hby d17_506) rfl rfl ?_
    refine XS.bipush X159.here hx rfl (hb hby d17_507) ?_
    show Steps p.tables e below (T159.setTop (mkF m 509 #[.val (.int (32 : Int32))] [(.int (19 : Int32)), (.ref b101), (.ref b101)])) _
    refine XS.bipush X159.here hx rfl (hb hby d17_509) ?_
    exact k
  obtain ⟨cl162, Ar162, q162, S162, M162, H162, G162⟩ := id fa159
  have hin162 : ¬ ((19 : Int32) < 0 ∨ cl162.slots.size ≤ ((19 : Int32)).toNatClampNeg) := inb_of S162 ⟨by decide, by decide⟩
  obtain ⟨T162, h162, X162, e162, W162, st162⟩ := stC X159 hx hZ e159 Ar162 (j := (19 : Int32)) hin162 (g := (mkF m 511 #[.val (.int (32 : Int32))] [(.int (57 : Int32)), (.int (19 : Int32)), (.ref b101), (.ref b101)])) rfl rfl (hb hby d17_511)
  have fa162 := Arf.set (v := .int (nar .char (57 : Int32))) Ar162 q162 S162 M162 H162 G162 (fits_nar_char (57 : Int32)) W162
  have f163 := Nat.le_trans f160 (Keep.of_wr W162).1
  have f164 := f161.wr W162 (Or.inr gh101)
  have N162 := Fr.snoc X162 N159 gn101
  refine EndsQ.go st162 ?_
  show EndsQ _ _ _ _ _ _ _ (T162.setTop (mkF m 512 #[.val (.int (32 : Int32))] [(.ref b101)]))
  refine EndsQ.go (b := T162.setTop (mkF m 517 #[.val (.int (32 : Int32))] [(.int (45 : Int32)), (.int (20 : Int32)), (.ref b101), (.ref b101)])) (fun t k => ?_) ?_
  · show Steps p.tables e below (T162.setTop (mkF m 512 #[.val (.int (32 : Int32))] [(.ref b101)])) _
    refine XS.dup X162.here hx rfl (hb hby d17_512) rfl rfl ?_
    refine XS.bipush X162.here hx rfl (hb hby d17_513) ?_
    refine XS.bipush X162.here hx rfl (hb hby d17_515) ?_
    show Steps p.tables e below (T162.setTop (mkF m 517 #[.val (.int (32 : Int32))] [(.int (45 : Int32)), (.int (20 : Int32)), (.ref b101), (.ref b101)])) _
    exact k
  obtain ⟨cl165, Ar165, q165, S165, M165, H165, G165⟩ := id fa162
  have hin165 : ¬ ((20 : Int32) < 0 ∨ cl165.slots.size ≤ ((20 : Int32)).toNatClampNeg) := inb_of S165 ⟨by decide, by decide⟩
  obtain ⟨T165, h165, X165, e165, W165, st165⟩ := stC X162 hx hZ e162 Ar165 (j := (20 : Int32)) hin165 (g := (mkF m 517 #[.val (.int (32 : Int32))] [(.int (45 : Int32)), (.int (20 : Int32)), (.ref b101), (.ref b101)])) rfl rfl (hb hby d17_517)
  have fa165 := Arf.set (v := .int (nar .char (45 : Int32))) Ar165 q165 S165 M165 H165 G165 (fits_nar_char (45 : Int32)) W165
  have f166 := Nat.le_trans f163 (Keep.of_wr W165).1
  have f167 := f164.wr W165 (Or.inr gh101)
  have N165 := Fr.snoc X165 N162 gn101
  refine EndsQ.go st165 ?_
  show EndsQ _ _ _ _ _ _ _ (T165.setTop (mkF m 518 #[.val (.int (32 : Int32))] [(.ref b101)]))
  refine EndsQ.go (b := T165.setTop (mkF m 523 #[.val (.int (32 : Int32))] [(.int (65 : Int32)), (.int (21 : Int32)), (.ref b101), (.ref b101)])) (fun t k => ?_) ?_
  · show Steps p.tables e below (T165.setTop (mkF m 518 #[.val (.int (32 : Int32))] [(.ref b101)])) _
    refine XS.dup X165.here hx rfl (hb hby d17_518) rfl rfl ?_
    refine XS.bipush X165.here hx rfl (hb hby d17_519) ?_
    refine XS.bipush X165.here hx rfl (hb hby d17_521) ?_
    exact k
  obtain ⟨cl168, Ar168, q168, S168, M168, H168, G168⟩ := id fa165
  have hin168 : ¬ ((21 : Int32) < 0 ∨ cl168.slots.size ≤ ((21 : Int32)).toNatClampNeg) := inb_of S168 ⟨by decide, by decide⟩
  obtain ⟨T168, h168, X168, e168, W168, st168⟩ := stC X165 hx hZ e165 Ar168 (j := (21 : Int32)) hin168 (g := (mkF m 523 #[.val (.int (32 : Int32))] [(.int (65 : Int32)), (.int (21 : Int32)), (.ref b101), (.ref b101)])) rfl rfl (hb hby d17_523)
  have fa168 := Arf.set (v := .int (nar .char (65 : Int32))) Ar168 q168 S168 M168 H168 G168 (fits_nar_char (65 : Int32)) W168
  have f169 := Nat.le_trans f166 (Keep.of_wr W168).1
  have f170 := f167.wr W168 (Or.inr gh101)
  have N168 := Fr.snoc X168 N165 gn101
  refine EndsQ.go st168 ?_
  show EndsQ _ _ _ _ _ _ _ (T168.setTop (mkF m 524 #[.val (.int (32 : Int32))] [(.ref b101)]))
  refine EndsQ.go (b := T168.setTop (mkF m 529 #[.val (.int (32 : Int32))] [(.int (90 : Int32)), (.int (22 : Int32)), (.ref b101), (.ref b101)])) (fun t k => ?_) ?_
  · show Steps p.tables e below (T168.setTop (mkF m 524 #[.val (.int (32 : Int32))] [(.ref b101)])) _
    refine XS.dup X168.here hx rfl (hb hby d17_524) rfl rfl ?_
    show Steps p.tables e below (T168.setTop (mkF m 525 #[.val (.int (32 : Int32))] [(.ref b101), (.ref b101)])) _
    refine XS.bipush X168.here hx rfl (hb hby d17_525) ?_
    refine XS.bipush X168.here hx rfl (hb hby d17_527) ?_
    exact k
  obtain ⟨cl171, Ar171, q171, S171, M171, H171, G171⟩ := id fa168
  have hin171 : ¬ ((22 : Int32) < 0 ∨ cl171.slots.size ≤ ((22 : Int32)).toNatClampNeg) := inb_of S171 ⟨by decide, by decide⟩
  obtain ⟨T171, h171, X171, e171, W171, st171⟩ := stC X168 hx hZ e168 Ar171 (j := (22 : Int32)) hin171 (g := (mkF m 529 #[.val (.int (32 : Int32))] [(.int (90 : Int32)), (.int (22 : Int32)), (.ref b101), (.ref b101)])) rfl rfl (hb hby d17_529)
  have fa171 := Arf.set (v := .int (nar .char (90 : Int32))) Ar171 q171 S171 M171 H171 G171 (fits_nar_char (90 : Int32)) W171
  have f172 := Nat.le_trans f169 (Keep.of_wr W171).1
  have f173 := f170.wr W171 (Or.inr gh101)
  have N171 := Fr.snoc X171 N168 gn101
  refine EndsQ.go st171 ?_
  show EndsQ _ _ _ _ _ _ _ (T171.setTop (mkF m 530 #[.val (.int (32 : Int32))] [(.ref b101)]))
  refine EndsQ.go (b := T171.setTop (mkF m 535 #[.val (.int (32 : Int32))] [(.int (97 : Int32)), (.int (23 : Int32)), (.ref b101), (.ref b101)])) (fun t k => ?_) ?_
  · show Steps p.tables e below (T171.setTop (mkF m 530 #[.val (.int (32 : Int32))] [(.ref b101)])) _
    refine XS.dup X171.here hx rfl (hb hby d17_530) rfl rfl ?_
    refine XS.bipush X171.here hx rfl (hb hby d17_531) ?_
    show Steps p.tables e below (T171.setTop (mkF m 533 #[.val (.int (32 : Int32))] [(.int (23 : Int32)), (.ref b101), (.ref b101)])) _
    refine XS.bipush X171.here hx rfl (hb hby d17_533) ?_
    exact k
  obtain ⟨cl174, Ar174, q174, S174, M174, H174, G174⟩ := id fa171
  have hin174 : ¬ ((23 : Int32) < 0 ∨ cl174.slots.size ≤ ((23 : Int32)).toNatClampNeg) := inb_of S174 ⟨by decide, by decide⟩
  obtain ⟨T174, h174, X174, e174, W174, st174⟩ := stC X171 hx hZ e171 Ar174 (j := (23 : Int32)) hin174 (g := (mkF m 535 #[.val (.int (32 : Int32))] [(.int (97 : Int32)), (.int (23 : Int32)), (.ref b101), (.ref b101)])) rfl rfl (hb hby d17_535)
  have fa174 := Arf.set (v := .int (nar .char (97 : Int32))) Ar174 q174 S174 M174 H174 G174 (fits_nar_char (97 : Int32)) W174
  have f175 := Nat.le_trans f172 (Keep.of_wr W174).1
  have f176 := f173.wr W174 (Or.inr gh101)
  have N174 := Fr.snoc X174 N171 gn101
  refine EndsQ.go st174 ?_
  show EndsQ _ _ _ _ _ _ _ (T174.setTop (mkF m 536 #[.val (.int (32 : Int32))] [(.ref b101)]))
  refine EndsQ.go (b := T174.setTop (mkF m 541 #[.val (.int (32 : Int32))] [(.int (122 : Int32)), (.int (24 : Int32)), (.ref b101), (.ref b101)])) (fun t k => ?_) ?_
  · show Steps p.tables e below (T174.setTop (mkF m 536 #[.val (.int (32 : Int32))] [(.ref b101)])) _
    refine XS.dup X174.here hx rfl (hb hby d17_536) rfl rfl ?_
    refine XS.bipush X174.here hx rfl (hb hby d17_537) ?_
    refine XS.bipush X174.here hx rfl (hb hby d17_539) ?_
    show Steps p.tables e below (T174.setTop (mkF m 541 #[.val (.int (32 : Int32))] [(.int (122 : Int32)), (.int (24 : Int32)), (.ref b101), (.ref b101)])) _
    exact k
  obtain ⟨cl177, Ar177, q177, S177, M177, H177, G177⟩ := id fa174
  have hin177 : ¬ ((24 : Int32) < 0 ∨ cl177.slots.size ≤ ((24 : Int32)).toNatClampNeg) := inb_of S177 ⟨by decide, by decide⟩
  obtain ⟨T177, h177, X177, e177, W177, st177⟩ := stC X174 hx hZ e174 Ar177 (j := (24 : Int32)) hin177 (g := (mkF m 541 #[.val (.int (32 : Int32))] [(.int (122 : Int32)), (.int (24 : Int32)), (.ref b101), (.ref b101)])) rfl rfl (hb hby d17_541)
  have fa177 := Arf.set (v := .int (nar .char (122 : Int32))) Ar177 q177 S177 M177 H177 G177 (fits_nar_char (122 : Int32)) W177
  have f178 := Nat.le_trans f175 (Keep.of_wr W177).1
  have f179 := f176.wr W177 (Or.inr gh101)
  have N177 := Fr.snoc X177 N174 gn101
  refine EndsQ.go st177 ?_
  show EndsQ _ _ _ _ _ _ _ (T177.setTop (mkF m 542 #[.val (.int (32 : Int32))] [(.ref b101)]))
  refine EndsQ.go (b := T177.setTop (mkF m 547 #[.val (.int (32 : Int32))] [(.int (48 : Int32)), (.int (25 : Int32)), (.ref b101), (.ref b101)])) (fun t k => ?_) ?_
  · show Steps p.tables e below (T177.setTop (mkF m 542 #[.val (.int (32 : Int32))] [(.ref b101)])) _
    refine XS.dup X177.here hx rfl (hb hby d17_542) rfl rfl ?_
    refine XS.bipush X177.here hx rfl (hb hby d17_543) ?_
    refine XS.bipush X177.here hx rfl (hb hby d17_545) ?_
    exact k
  obtain ⟨cl180, Ar180, q180, S180, M180, H180, G180⟩ := id fa177
  have hin180 : ¬ ((25 : Int32) < 0 ∨ cl180.slots.size ≤ ((25 : Int32)).toNatClampNeg) := inb_of S180 ⟨by decide, by decide⟩
  obtain ⟨T180, h180, X180, e180, W180, st180⟩ := stC X177 hx hZ e177 Ar180 (j := (25 : Int32)) hin180 (g := (mkF m 547 #[.val (.int (32 : Int32))] [(.int (48 : Int32)), (.int (25 : Int32)), (.ref b101), (.ref b101)])) rfl rfl (hb hby d17_547)
  have fa180 := Arf.set (v := .int (nar .char (48 : Int32))) Ar180 q180 S180 M180 H180 G180 (fits_nar_char (48 : Int32)) W180
  have f181 := Nat.le_trans f178 (Keep.of_wr W180).1
  have f182 := f179.wr W180 (Or.inr gh101)
  have N180 := Fr.snoc X180 N177 gn101
  refine EndsQ.go st180 ?_
  show EndsQ _ _ _ _ _ _ _ (T180.setTop (mkF m 548 #[.val (.int (32 : Int32))] [(.ref b101)]))
  refine EndsQ.go (b := T180.setTop (mkF m 553 #[.val (.int (32 : Int32))] [(.int (57 : Int32)), (.int (26 : Int32)), (.ref b101), (.ref b101)])) (fun t k => ?_) ?_
  · show Steps p.tables e below (T180.setTop (mkF m 548 #[.val (.int (32 : Int32))] [(.ref b101)])) _
    refine XS.dup X180.here hx rfl (hb hby d17_548) rfl rfl ?_
    show Steps p.tables e below (T180.setTop (mkF m 549 #[.val (.int (32 : Int32))] [(.ref b101), (.ref b101)])) _
    refine XS.bipush X180.here hx rfl (hb hby d17_549) ?_
    refine XS.bipush X180.here hx rfl (hb hby d17_551) ?_
    exact k
  obtain ⟨cl183, Ar183, q183, S183, M183, H183, G183⟩ := id fa180
  have hin183 : ¬ ((26 : Int32) < 0 ∨ cl183.slots.size ≤ ((26 : Int32)).toNatClampNeg) := inb_of S183 ⟨by decide, by decide⟩
  obtain ⟨T183, h183, X183, e183, W183, st183⟩ := stC X180 hx hZ e180 Ar183 (j := (26 : Int32)) hin183 (g := (mkF m 553 #[.val (.int (32 : Int32))] [(.int (57 : Int32)), (.int (26 : Int32)), (.ref b101), (.ref b101)])) rfl rfl (hb hby d17_553)
  have fa183 := Arf.set (v := .int (nar .char (57 : Int32))) Ar183 q183 S183 M183 H183 G183 (fits_nar_char (57 : Int32)) W183
  have f184 := Nat.le_trans f181 (Keep.of_wr W183).1
  have f185 := f182.wr W183 (Or.inr gh101)
  have N183 := Fr.snoc X183 N180 gn101
  refine EndsQ.go st183 ?_
  show EndsQ _ _ _ _ _ _ _ (T183.setTop (mkF m 554 #[.val (.int (32 : Int32))] [(.ref b101)]))
  refine EndsQ.go (b := T183.setTop (mkF m 559 #[.val (.int (32 : Int32))] [(.int (45 : Int32)), (.int (27 : Int32)), (.ref b101), (.ref b101)])) (fun t k => ?_) ?_
  · show Steps p.tables e below (T183.setTop (mkF m 554 #[.val (.int (32 : Int32))] [(.ref b101)])) _
    refine XS.dup X183.here hx rfl (hb hby d17_554) rfl rfl ?_
    refine XS.bipush X183.here hx rfl (hb hby d17_555) ?_
    show Steps p.tables e below (T183.setTop (mkF m 557 #[.val (.int (32 : Int32))] [(.int (27 : Int32)), (.ref b101), (.ref b101)])) _
    refine XS.bipush X183.here hx rfl (hb hby d17_557) ?_
    exact k
  obtain ⟨cl186, Ar186, q186, S186, M186, H186, G186⟩ := id fa183
  have hin186 : ¬ ((27 : Int32) < 0 ∨ cl186.slots.size ≤ ((27 : Int32)).toNatClampNeg) := inb_of S186 ⟨by decide, by decide⟩
  obtain ⟨T186, h186, X186, e186, W186, st186⟩ := stC X183 hx hZ e183 Ar186 (j := (27 : Int32)) hin186 (g := (mkF m 559 #[.val (.int (32 : Int32))] [(.int (45 : Int32)), (.int (27 : Int32)), (.ref b101), (.ref b101)])) rfl rfl (hb hby d17_559)
  have fa186 := Arf.set (v := .int (nar .char (45 : Int32))) Ar186 q186 S186 M186 H186 G186 (fits_nar_char (45 : Int32)) W186
  have f187 := Nat.le_trans f184 (Keep.of_wr W186).1
  have f188 := f185.wr W186 (Or.inr gh101)
  have N186 := Fr.snoc X186 N183 gn101
  refine EndsQ.go st186 ?_
  show EndsQ _ _ _ _ _ _ _ (T186.setTop (mkF m 560 #[.val (.int (32 : Int32))] [(.ref b101)]))
  refine EndsQ.go (b := T186.setTop (mkF m 565 #[.val (.int (32 : Int32))] [(.int (65 : Int32)), (.int (28 : Int32)), (.ref b101), (.ref b101)])) (fun t k => ?_) ?_
  · show Steps p.tables e below (T186.setTop (mkF m 560 #[.val (.int (32 : Int32))] [(.ref b101)])) _
    refine XS.dup X186.here hx rfl (hb hby d17_560) rfl rfl ?_
    refine XS.bipush X186.here hx rfl (hb hby d17_561) ?_
    refine XS.bipush X186.here hx rfl (hb hby d17_563) ?_
    show Steps p.tables e below (T186.setTop (mkF m 565 #[.val (.int (32 : Int32))] [(.int (65 : Int32)), (.int (28 : Int32)), (.ref b101), (.ref b101)])) _
    exact k
  obtain ⟨cl189, Ar189, q189, S189, M189, H189, G189⟩ := id fa186
  have hin189 : ¬ ((28 : Int32) < 0 ∨ cl189.slots.size ≤ ((28 : Int32)).toNatClampNeg) := inb_of S189 ⟨by decide, by decide⟩
  obtain ⟨T189, h189, X189, e189, W189, st189⟩ := stC X186 hx hZ e186 Ar189 (j := (28 : Int32)) hin189 (g := (mkF m 565 #[.val (.int (32 : Int32))] [(.int (65 : Int32)), (.int (28 : Int32)), (.ref b101), (.ref b101)])) rfl rfl (hb hby d17_565)
  have fa189 := Arf.set (v := .int (nar .char (65 : Int32))) Ar189 q189 S189 M189 H189 G189 (fits_nar_char (65 : Int32)) W189
  have f190 := Nat.le_trans f187 (Keep.of_wr W189).1
  have f191 := f188.wr W189 (Or.inr gh101)
  have N189 := Fr.snoc X189 N186 gn101
  refine EndsQ.go st189 ?_
  show EndsQ _ _ _ _ _ _ _ (T189.setTop (mkF m 566 #[.val (.int (32 : Int32))] [(.ref b101)]))
  refine EndsQ.go (b := T189.setTop (mkF m 571 #[.val (.int (32 : Int32))] [(.int (90 : Int32)), (.int (29 : Int32)), (.ref b101), (.ref b101)])) (fun t k => ?_) ?_
  · show Steps p.tables e below (T189.setTop (mkF m 566 #[.val (.int (32 : Int32))] [(.ref b101)])) _
    refine XS.dup X189.here hx rfl (hb hby d17_566) rfl rfl ?_
    refine XS.bipush X189.here hx rfl (hb hby d17_567) ?_
    refine XS.bipush X189.here hx rfl (hb hby d17_569) ?_
    exact k
  obtain ⟨cl192, Ar192, q192, S192, M192, H192, G192⟩ := id fa189
  have hin192 : ¬ ((29 : Int32) < 0 ∨ cl192.slots.size ≤ ((29 : Int32)).toNatClampNeg) := inb_of S192 ⟨by decide, by decide⟩
  obtain ⟨T192, h192, X192, e192, W192, st192⟩ := stC X189 hx hZ e189 Ar192 (j := (29 : Int32)) hin192 (g := (mkF m 571 #[.val (.int (32 : Int32))] [(.int (90 : Int32)), (.int (29 : Int32)), (.ref b101), (.ref b101)])) rfl rfl (hb hby d17_571)
  have fa192 := Arf.set (v := .int (nar .char (90 : Int32))) Ar192 q192 S192 M192 H192 G192 (fits_nar_char (90 : Int32)) W192
  have f193 := Nat.le_trans f190 (Keep.of_wr W192).1
  have f194 := f191.wr W192 (Or.inr gh101)
  have N192 := Fr.snoc X192 N189 gn101
  refine EndsQ.go st192 ?_
  show EndsQ _ _ _ _ _ _ _ (T192.setTop (mkF m 572 #[.val (.int (32 : Int32))] [(.ref b101)]))
  refine EndsQ.go (b := T192.setTop (mkF m 577 #[.val (.int (32 : Int32))] [(.int (97 : Int32)), (.int (30 : Int32)), (.ref b101), (.ref b101)])) (fun t k => ?_) ?_
  · show Steps p.tables e below (T192.setTop (mkF m 572 #[.val (.int (32 : Int32))] [(.ref b101)])) _
    refine XS.dup X192.here hx rfl (hb hby d17_572) rfl rfl ?_
    show Steps p.tables e below (T192.setTop (mkF m 573 #[.val (.int (32 : Int32))] [(.ref b101), (.ref b101)])) _
    refine XS.bipush X192.here hx rfl (hb hby d17_573) ?_
    refine XS.bipush X192.here hx rfl (hb hby d17_575) ?_
    exact k
  obtain ⟨cl195, Ar195, q195, S195, M195, H195, G195⟩ := id fa192
  have hin195 : ¬ ((30 : Int32) < 0 ∨ cl195.slots.size ≤ ((30 : Int32)).toNatClampNeg) := inb_of S195 ⟨by decide, by decide⟩
  obtain ⟨T195, h195, X195, e195, W195, st195⟩ := stC X192 hx hZ e192 Ar195 (j := (30 : Int32)) hin195 (g := (mkF m 577 #[.val (.int (32 : Int32))] [(.int (97 : Int32)), (.int (30 : Int32)), (.ref b101), (.ref b101)])) rfl rfl (hb hby d17_577)
  have fa195 := Arf.set (v := .int (nar .char (97 : Int32))) Ar195 q195 S195 M195 H195 G195 (fits_nar_char (97 : Int32)) W195
  have f196 := Nat.le_trans f193 (Keep.of_wr W195).1
  have f197 := f194.wr W195 (Or.inr gh101)
  have N195 := Fr.snoc X195 N192 gn101
  refine EndsQ.go st195 ?_
  show EndsQ _ _ _ _ _ _ _ (T195.setTop (mkF m 578 #[.val (.int (32 : Int32))] [(.ref b101)]))
  refine EndsQ.go (b := T195.setTop (mkF m 583 #[.val (.int (32 : Int32))] [(.int (122 : Int32)), (.int (31 : Int32)), (.ref b101), (.ref b101)])) (fun t k => ?_) ?_
  · show Steps p.tables e below (T195.setTop (mkF m 578 #[.val (.int (32 : Int32))] [(.ref b101)])) _
    refine XS.dup X195.here hx rfl (hb hby d17_578) rfl rfl ?_
    refine XS.bipush X195.here hx rfl (hb hby d17_579) ?_
    show Steps p.tables e below (T195.setTop (mkF m 581 #[.val (.int (32 : Int32))] [(.int (31 : Int32)), (.ref b101), (.ref b101)])) _
    refine XS.bipush X195.here hx rfl (hb hby d17_581) ?_
    exact k
  obtain ⟨cl198, Ar198, q198, S198, M198, H198, G198⟩ := id fa195
  have hin198 : ¬ ((31 : Int32) < 0 ∨ cl198.slots.size ≤ ((31 : Int32)).toNatClampNeg) := inb_of S198 ⟨by decide, by decide⟩
  obtain ⟨T198, h198, X198, e198, W198, st198⟩ := stC X195 hx hZ e195 Ar198 (j := (31 : Int32)) hin198 (g := (mkF m 583 #[.val (.int (32 : Int32))] [(.int (122 : Int32)), (.int (31 : Int32)), (.ref b101), (.ref b101)])) rfl rfl (hb hby d17_583)
  have fa198 := Arf.set (v := .int (nar .char (122 : Int32))) Ar198 q198 S198 M198 H198 G198 (fits_nar_char (122 : Int32)) W198
  have f199 := Nat.le_trans f196 (Keep.of_wr W198).1
  have f200 := f197.wr W198 (Or.inr gh101)
  have N198 := Fr.snoc X198 N195 gn101
  refine EndsQ.go st198 ?_
  show EndsQ _ _ _ _ _ _ _ (T198.setTop (mkF m 584 #[.val (.int (32 : Int32))] [(.ref b101)]))
  refine EndsQ.retA X198 hx Bd.notSynchronized (w := (.ref b101)) Bd.returns rfl rfl rfl (hb hby d17_584) (by decide) (by decide) ?_
  show QB32 Z h0 n0 (some (.ref b101)) T198.heap _
  rw [e198]
  refine ⟨b101, k101, rfl, N198, f200, gh101, fa198.congr (fun i hi => ?_)⟩
  match i, (show i < 32 from hi) with
  | 0, _ => rfl
  | 1, _ => rfl
  | 2, _ => rfl
  | 3, _ => rfl
  | 4, _ => rfl
  | 5, _ => rfl
  | 6, _ => rfl
  | 7, _ => rfl
  | 8, _ => rfl
  | 9, _ => rfl
  | 10, _ => rfl
  | 11, _ => rfl
  | 12, _ => rfl
  | 13, _ => rfl
  | 14, _ => rfl
  | 15, _ => rfl
  | 16, _ => rfl
  | 17, _ => rfl
  | 18, _ => rfl
  | 19, _ => rfl
  | 20, _ => rfl
  | 21, _ => rfl
  | 22, _ => rfl
  | 23, _ => rfl
  | 24, _ => rfl
  | 25, _ => rfl
  | 26, _ => rfl
  | 27, _ => rfl
  | 28, _ => rfl
  | 29, _ => rfl
  | 30, _ => rfl
  | 31, _ => rfl
  | q + 32, y => exact absurd y (by omega)
theorem ef_8 (m : MethodId) (x0 : Addr) : entryFrame m #[(.ref x0)] 4 = mkF m 0 #[.val (.ref x0), .unset, .unset, .unset] [] := by first | (simp [entryFrame, mkF, argsToLocals, Value.category]; done) | rfl
def Q8 (Z : State) (a1 : Addr) (cs : Int32) (fv : Value) (n : Int32) (ch : Nat → Int32) (h0 : Heap) (n0 : Nat) (v : Option Value) (h : Heap) (L : List Loc) : Prop := v = some (.int (own_val n ch)) ∧ Fr n0 L ∧ h = h0
set_option maxRecDepth 65536 in
set_option maxHeartbeats 40000000 in
theorem rm8 (l : Launch) (Z : State) (a0 : Array Value) (hw : ∀ d ∈ tables_1, d.before a0 Z = true) (ws : List Jvm.Cond) (a1 : Addr) (cs : Int32) (fv : Value) (n : Int32) (ch : Nat → Int32) (h0 : Heap) (n0 : Nat) (Z0 : n0 ≤ h0.size) (ST : own_St Z h0 cs fv) (Y1 : own_Str Z h0 a1 n ch) (hn0 : ¬ n < (0 : Int32)) (hn1 : n.toInt < 1073741824) (hc : own_c16 ch) (E1 : Exa Z h0 a1 "java/lang/String") :
    MetFree l (⟨"com/example/lossfall/lossfall/model/CertificateClass", "isValidName", "(Ljava/lang/String;)Z"⟩ : MethodName) (head1 (Jvm.Cond.code (⟨"com/example/lossfall/lossfall/model/CertificateClass", "isValidName", "(Ljava/lang/String;)Z"⟩ : MethodName) prog_26_method_2_code 4 (some .boolean) :: ws) ({ frames := 5, cells := 0, slots := 0, locals := 80 } : Room)) (fun a U => a = #[(.ref a1)] ∧ Z.Warmed39 U.vm ∧ U.heap = h0) (fun _ _ _ _ _ => True) (fun _ U o U' => ∃ v L, o = .returned v ∧ Q8 Z a1 cs fv n ch h0 n0 v U'.heap L ∧ FrameEnd U o U' L ({ frames := 5, cells := 0, slots := 0, locals := 80 } : Room).cells ({ frames := 5, cells := 0, slots := 0, locals := 80 } : Room).slots) := by
  refine MetFree.of_bodySF (plainFor_of_name pn_8) hisR ?_
  intro p e s m args below meth c s₁ Bd hml0 hP hK
  obtain ⟨rfl, hZ, hh⟩ := hP
  have hx := Bd.exec
  have hby := Bd.bytes
  have hml : c.maxLocals = 4 := hml0
  have hown : s.vm.findClass "com/example/lossfall/lossfall/model/CertificateClass" = some m.cls := findClass_of_methodNamed Bd.named
  have hnm := (name_of_methodNamed Bd.named Bd.method).1
  have X0 : Stand p l e ({ frames := 5, cells := 0, slots := 0, locals := 80 } : Room) s m #[(.ref a1)] below meth c s₁ [] 0 0 := Stand.of_body Bd
  have e0 : s₁.heap = h0 := by rw [← hh, Bd.state]; rfl
  have N0 := Fr.nil n0
  show EndsQ p.tables e below s (fun v h L => Q8 Z a1 cs fv n ch h0 n0 v h L) ({ frames := 5, cells := 0, slots := 0, locals := 80 } : Room).cells ({ frames := 5, cells := 0, slots := 0, locals := 80 } : Room).slots _
  refine EndsQ.go (b := s₁.setTop (mkF m 0 #[.val (.ref a1), .unset, .unset, .unset] [])) (fun t k => castTop (ef_8 m a1) k) ?_
  obtain ⟨S_C, hcs, S_F, hfv, S_A, S_H, S_L⟩ := ST
  refine EndsQ.go (b := s₁.setTop (mkF m 1 #[.val (.ref a1), .unset, .unset, .unset] [(.ref a1)])) (fun t k => ?_) ?_
  · show Steps p.tables e below (s₁.setTop (mkF m 0 #[.val (.ref a1), .unset, .unset, .unset] [])) _
    refine XS.aloadN X0.here hx rfl (hb hby d8_0) rfl rfl ?_
    exact k
  obtain ⟨cq101, kq101, qa101, qb101, qc101⟩ := isOf hZ e0 E1
  obtain ⟨_, _, ⟨T101, L101, kk101, nn101⟩, -, X101, ⟨Lc101, hQ101, l101, y101, z101⟩, st101⟩ := X0.virtualBack hx (y := (⟨"java/lang/String", "isEmpty", "()Z"⟩ : MethodName)) (z := (⟨"java/lang/String", "isEmpty", "()Z"⟩ : MethodName)) hown (mvT hZ (own_w hw 39 rfl)) (mvT hZ (own_w hw 40 rfl)) (notFace_of_selects (args := #[]) (mvT hZ (own_w hw 42 rfl))) (mvT hZ (own_w hw 42 rfl)) (mvT hZ (own_w hw 41 rfl)) (by decide) (backOf (W := 0) (rmEmS l Z a0 hw [] a1 cs fv n ch h0 n0 Z0 ⟨S_C, hcs, S_F, hfv, S_A, S_H, S_L⟩ Y1 hn0 hn1 hc) hZ (own_w hw 43 rfl) (own_w hw 8 rfl) (by decide) (by decide)) qa101 qc101 (g := (mkF m 1 #[.val (.ref a1), .unset, .unset, .unset] [(.ref a1)])) rfl (by rw [hml]; rfl) (Steps.refl _) (argsL := []) (rest := []) (lenOf pd_6 rfl) rfl (by show 2 * 0 + _ ≤ _; exact Nat.le_of_eq rfl) (hb hby d8_1) (fun _ _ => ⟨rfl, e0, (by decide : 0 + 0 ≤ _), (by decide : 0 + 0 ≤ _)⟩)
  dsimp only [Pt.U, Pt.locs, Pt.cells, Pt.slots] at X101 l101 y101 z101 st101 hQ101
  subst l101 y101 z101
  obtain ⟨rfl, Nq101, eq101⟩ := hQ101
  have N101 := Fr.app N0 Nq101
  refine EndsQ.go (fun t k => st101.trans k) ?_
  show EndsQ _ _ _ _ _ _ _ (T101.setTop (mkF m 4 #[.val (.ref a1), .unset, .unset, .unset] [(.int (own_isl n))]))
  by_cases hc4_102 : (own_isl n) = (0 : Int32)
  · refine EndsQ.go (b := T101.setTop (mkF m 7 #[.val (.ref a1), .unset, .unset, .unset] [])) (fun t k => ?_) ?_
    · show Steps p.tables e below (T101.setTop (mkF m 4 #[.val (.ref a1), .unset, .unset, .unset] [(.int (own_isl n))])) _
      refine XS.ifNo X101.here hx rfl (hb hby d8_4) rfl ((if0 _ _).trans (teq hc4_102).2) ?_
      show Steps p.tables e below (T101.setTop (mkF m 7 #[.val (.ref a1), .unset, .unset, .unset] [])) _
      exact k
    refine EndsQ.go (b := T101.setTop (mkF m 8 #[.val (.ref a1), .unset, .unset, .unset] [(.ref a1)])) (fun t k => ?_) ?_
    · show Steps p.tables e below (T101.setTop (mkF m 7 #[.val (.ref a1), .unset, .unset, .unset] [])) _
      refine XS.aloadN X101.here hx rfl (hb hby d8_7) rfl rfl ?_
      exact k
    obtain ⟨cq103, kq103, qa103, qb103, qc103⟩ := isOf hZ eq101 E1
    obtain ⟨_, _, ⟨T103, L103, kk103, nn103⟩, -, X103, ⟨Lc103, hQ103, l103, y103, z103⟩, st103⟩ := X101.virtualBack hx (y := (⟨"java/lang/String", "length", "()I"⟩ : MethodName)) (z := (⟨"java/lang/String", "length", "()I"⟩ : MethodName)) hown (mvT hZ (own_w hw 44 rfl)) (mvT hZ (own_w hw 45 rfl)) (notFace_of_selects (args := #[]) (mvT hZ (own_w hw 47 rfl))) (mvT hZ (own_w hw 47 rfl)) (mvT hZ (own_w hw 46 rfl)) (by decide) (backOf (W := 0) (rmLeS l Z a0 hw [] a1 cs fv n ch h0 n0 Z0 ⟨S_C, hcs, S_F, hfv, S_A, S_H, S_L⟩ Y1 hn0 hn1 hc) hZ (own_w hw 48 rfl) (own_w hw 8 rfl) (by decide) (by decide)) qa103 qc103 (g := (mkF m 8 #[.val (.ref a1), .unset, .unset, .unset] [(.ref a1)])) rfl (by rw [hml]; rfl) (Steps.refl _) (argsL := []) (rest := []) (lenOf pd_14 rfl) rfl (by show 2 * 0 + _ ≤ _; exact Nat.le_of_eq rfl) (hb hby d8_8) (fun _ _ => ⟨rfl, eq101, (by decide : 0 + 0 ≤ _), (by decide : 0 + 0 ≤ _)⟩)
    dsimp only [Pt.U, Pt.locs, Pt.cells, Pt.slots] at X103 l103 y103 z103 st103 hQ103
    subst l103 y103 z103
    obtain ⟨rfl, Nq103, eq103⟩ := hQ103
    have N103 := Fr.app N101 Nq103
    refine EndsQ.go (fun t k => st103.trans k) ?_
    show EndsQ _ _ _ _ _ _ _ (T103.setTop (mkF m 11 #[.val (.ref a1), .unset, .unset, .unset] [(.int n)]))
    refine EndsQ.go (b := T103.setTop (mkF m 13 #[.val (.ref a1), .unset, .unset, .unset] [(.int (32 : Int32)), (.int n)])) (fun t k => ?_) ?_
    · show Steps p.tables e below (T103.setTop (mkF m 11 #[.val (.ref a1), .unset, .unset, .unset] [(.int n)])) _
      refine XS.bipush X103.here hx rfl (hb hby d8_11) ?_
      exact k
    by_cases hc13_104 : (32 : Int32) < n
    · refine EndsQ.go (b := T103.setTop (mkF m 16 #[.val (.ref a1), .unset, .unset, .unset] [])) (fun t k => ?_) ?_
      · show Steps p.tables e below (T103.setTop (mkF m 13 #[.val (.ref a1), .unset, .unset, .unset] [(.int (32 : Int32)), (.int n)])) _
        refine XS.icmpNo X103.here hx rfl (hb hby d8_13) rfl (tlt hc13_104).2.2.2 ?_
        show Steps p.tables e below (T103.setTop (mkF m 16 #[.val (.ref a1), .unset, .unset, .unset] [])) _
        exact k
      refine EndsQ.go (b := T103.setTop (mkF m 17 #[.val (.ref a1), .unset, .unset, .unset] [(.int (0 : Int32))])) (fun t k => ?_) ?_
      · show Steps p.tables e below (T103.setTop (mkF m 16 #[.val (.ref a1), .unset, .unset, .unset] [])) _
        refine XS.iconst X103.here hx rfl (hb hby d8_16) ?_
        show Steps p.tables e below (T103.setTop (mkF m 17 #[.val (.ref a1), .unset, .unset, .unset] [(.int (0 : Int32))])) _
        exact k
      refine EndsQ.retN X103 hx Bd.notSynchronized (t := .boolean) Bd.returns (by simp) (hb hby d8_17) (by decide) (by decide) ?_
      show Q8 Z a1 cs fv n ch h0 n0 (some (.int (nar .boolean (0 : Int32)))) T103.heap _
      rw [eq103]
      exact ⟨congrArg (fun z => some (Value.int z)) (own_v0b n ch hc4_102 hc13_104), N103, rfl⟩
    · refine EndsQ.go (b := T103.setTop (mkF m 18 #[.val (.ref a1), .unset, .unset, .unset] [])) (fun t k => ?_) ?_
      · show Steps p.tables e below (T103.setTop (mkF m 13 #[.val (.ref a1), .unset, .unset, .unset] [(.int (32 : Int32)), (.int n)])) _
        refine XS.icmpYes X103.here hx rfl (pc0 := 13) (pc' := 18) rfl (hb hby d8_13) rfl (flt hc13_104).2.2.2 (by decide) (by decide) ?_
        show Steps p.tables e below (T103.setTop (mkF m 18 #[.val (.ref a1), .unset, .unset, .unset] [])) _
        exact k
      refine EndsQ.go (b := T103.setTop (mkF m 20 #[.val (.ref a1), .val (.int (0 : Int32)), .unset, .unset] [])) (fun t k => ?_) ?_
      · show Steps p.tables e below (T103.setTop (mkF m 18 #[.val (.ref a1), .unset, .unset, .unset] [])) _
        refine XS.iconst X103.here hx rfl (hb hby d8_18) ?_
        refine XS.istoreN X103.here hx rfl (hb hby d8_19) rfl (l' := #[.val (.ref a1), .val (.int (0 : Int32)), .unset, .unset]) rfl ?_
        exact k
      have loop : ∀ (fu : Nat) (i : Int32) (sv2 : Slot) (sv3 : Slot) (T_ : State) (h_ : Heap) (lc_ : List Loc), Stand p l e ({ frames := 5, cells := 0, slots := 0, locals := 80 } : Room) s m #[(.ref a1)] below meth c T_ lc_ 0 0 → T_.heap = h_ → Fr n0 lc_ → h_ = h0 → ¬ i < (0 : Int32) → i.toInt + (fu : Nat) = n.toInt → (∀ j, j < i.toNatClampNeg → own_okc (ch j) = 1) → own_one sv2 → own_one sv3 →  EndsQ p.tables e below s (fun v h L => Q8 Z a1 cs fv n ch h0 n0 v h L) ({ frames := 5, cells := 0, slots := 0, locals := 80 } : Room).cells ({ frames := 5, cells := 0, slots := 0, locals := 80 } : Room).slots (T_.setTop (mkF m 20 #[.val (.ref a1), .val (.int i), sv2, sv3] [])) := by
        intro fu
        induction fu with
        | zero =>
          intro i sv2 sv3 T_ h_ lc_ X_ e_ N_ hh_ hi hfu hf hs2 hs3
          refine EndsQ.go (b := T_.setTop (mkF m 22 #[.val (.ref a1), .val (.int i), sv2, sv3] [(.ref a1), (.int i)])) (fun t k => ?_) ?_
          · show Steps p.tables e below (T_.setTop (mkF m 20 #[.val (.ref a1), .val (.int i), sv2, sv3] [])) _
            refine XS.iloadN X_.here hx rfl (hb hby d8_20) rfl ?_
            refine XS.aloadN X_.here hx rfl (hb hby d8_21) rfl rfl ?_
            show Steps p.tables e below (T_.setTop (mkF m 22 #[.val (.ref a1), .val (.int i), sv2, sv3] [(.ref a1), (.int i)])) _
            exact k
          obtain ⟨cq105, kq105, qa105, qb105, qc105⟩ := isOf hZ (e_.trans hh_) E1
          obtain ⟨_, _, ⟨T105, L105, kk105, nn105⟩, -, X105, ⟨Lc105, hQ105, l105, y105, z105⟩, st105⟩ := X_.virtualBack hx (y := (⟨"java/lang/String", "length", "()I"⟩ : MethodName)) (z := (⟨"java/lang/String", "length", "()I"⟩ : MethodName)) hown (mvT hZ (own_w hw 44 rfl)) (mvT hZ (own_w hw 45 rfl)) (notFace_of_selects (args := #[]) (mvT hZ (own_w hw 47 rfl))) (mvT hZ (own_w hw 47 rfl)) (mvT hZ (own_w hw 46 rfl)) (by decide) (backOf (W := 1) (rmLeS l Z a0 hw [] a1 cs fv n ch h0 n0 Z0 ⟨S_C, hcs, S_F, hfv, S_A, S_H, S_L⟩ Y1 hn0 hn1 hc) hZ (own_w hw 48 rfl) (own_w hw 8 rfl) (by decide) (by decide)) qa105 qc105 (g := (mkF m 22 #[.val (.ref a1), .val (.int i), sv2, sv3] [(.ref a1), (.int i)])) rfl (by rw [hml]; rfl) (Steps.refl _) (argsL := []) (rest := [(.int i)]) (lenOf pd_14 rfl) rfl (by show 2 * 0 + _ ≤ _; exact Nat.le_of_eq rfl) (hb hby d8_22) (fun _ _ => ⟨rfl, (e_.trans hh_), (by decide : 0 + 0 ≤ _), (by decide : 0 + 0 ≤ _)⟩)
          dsimp only [Pt.U, Pt.locs, Pt.cells, Pt.slots] at X105 l105 y105 z105 st105 hQ105
          subst l105 y105 z105
          obtain ⟨rfl, Nq105, eq105⟩ := hQ105
          have N105 := Fr.app N_ Nq105
          refine EndsQ.go (fun t k => st105.trans k) ?_
          show EndsQ _ _ _ _ _ _ _ (T105.setTop (mkF m 25 #[.val (.ref a1), .val (.int i), sv2, sv3] [(.int n), (.int i)]))
          refine EndsQ.go (b := T105.setTop (mkF m 95 #[.val (.ref a1), .val (.int i), sv2, sv3] [(.int (1 : Int32))])) (fun t k => ?_) ?_
          · show Steps p.tables e below (T105.setTop (mkF m 25 #[.val (.ref a1), .val (.int i), sv2, sv3] [(.int n), (.int i)])) _
            refine XS.icmpYes X105.here hx rfl (pc0 := 25) (pc' := 94) rfl (hb hby d8_25) rfl (flt (own_fuZ i n hfu)).2.1 (by decide) (by decide) ?_
            show Steps p.tables e below (T105.setTop (mkF m 94 #[.val (.ref a1), .val (.int i), sv2, sv3] [])) _
            refine XS.iconst X105.here hx rfl (hb hby d8_94) ?_
            exact k
          refine EndsQ.retN X105 hx Bd.notSynchronized (t := .boolean) Bd.returns (by simp) (hb hby d8_95) (by decide) (by decide) ?_
          show Q8 Z a1 cs fv n ch h0 n0 (some (.int (nar .boolean (1 : Int32)))) T105.heap _
          rw [eq105]
          exact ⟨congrArg (fun z => some (Value.int z)) (own_v1 n i ch hc4_102 hc13_104 hfu hf), N105, rfl⟩
        | succ fu ih_loop =>
          intro i sv2 sv3 T_ h_ lc_ X_ e_ N_ hh_ hi hfu hf hs2 hs3
          refine EndsQ.go (b := T_.setTop (mkF m 22 #[.val (.ref a1), .val (.int i), sv2, sv3] [(.ref a1), (.int i)])) (fun t k => ?_) ?_
          · show Steps p.tables e below (T_.setTop (mkF m 20 #[.val (.ref a1), .val (.int i), sv2, sv3] [])) _
            refine XS.iloadN X_.here hx rfl (hb hby d8_20) rfl ?_
            refine XS.aloadN X_.here hx rfl (hb hby d8_21) rfl rfl ?_
            exact k
          obtain ⟨cq106, kq106, qa106, qb106, qc106⟩ := isOf hZ (e_.trans hh_) E1
          obtain ⟨_, _, ⟨T106, L106, kk106, nn106⟩, -, X106, ⟨Lc106, hQ106, l106, y106, z106⟩, st106⟩ := X_.virtualBack hx (y := (⟨"java/lang/String", "length", "()I"⟩ : MethodName)) (z := (⟨"java/lang/String", "length", "()I"⟩ : MethodName)) hown (mvT hZ (own_w hw 44 rfl)) (mvT hZ (own_w hw 45 rfl)) (notFace_of_selects (args := #[]) (mvT hZ (own_w hw 47 rfl))) (mvT hZ (own_w hw 47 rfl)) (mvT hZ (own_w hw 46 rfl)) (by decide) (backOf (W := 1) (rmLeS l Z a0 hw [] a1 cs fv n ch h0 n0 Z0 ⟨S_C, hcs, S_F, hfv, S_A, S_H, S_L⟩ Y1 hn0 hn1 hc) hZ (own_w hw 48 rfl) (own_w hw 8 rfl) (by decide) (by decide)) qa106 qc106 (g := (mkF m 22 #[.val (.ref a1), .val (.int i), sv2, sv3] [(.ref a1), (.int i)])) rfl (by rw [hml]; rfl) (Steps.refl _) (argsL := []) (rest := [(.int i)]) (lenOf pd_14 rfl) rfl (by show 2 * 0 + _ ≤ _; exact Nat.le_of_eq rfl) (hb hby d8_22) (fun _ _ => ⟨rfl, (e_.trans hh_), (by decide : 0 + 0 ≤ _), (by decide : 0 + 0 ≤ _)⟩)
          dsimp only [Pt.U, Pt.locs, Pt.cells, Pt.slots] at X106 l106 y106 z106 st106 hQ106
          subst l106 y106 z106
          obtain ⟨rfl, Nq106, eq106⟩ := hQ106
          have N106 := Fr.app N_ Nq106
          refine EndsQ.go (fun t k => st106.trans k) ?_
          show EndsQ _ _ _ _ _ _ _ (T106.setTop (mkF m 25 #[.val (.ref a1), .val (.int i), sv2, sv3] [(.int n), (.int i)]))
          refine EndsQ.go (b := T106.setTop (mkF m 30 #[.val (.ref a1), .val (.int i), sv2, sv3] [(.int i), (.ref a1)])) (fun t k => ?_) ?_
          · show Steps p.tables e below (T106.setTop (mkF m 25 #[.val (.ref a1), .val (.int i), sv2, sv3] [(.int n), (.int i)])) _
            refine XS.icmpNo X106.here hx rfl (hb hby d8_25) rfl (tlt (own_fuL i n fu hfu)).2.1 ?_
            show Steps p.tables e below (T106.setTop (mkF m 28 #[.val (.ref a1), .val (.int i), sv2, sv3] [])) _
            refine XS.aloadN X106.here hx rfl (hb hby d8_28) rfl rfl ?_
            show Steps p.tables e below (T106.setTop (mkF m 29 #[.val (.ref a1), .val (.int i), sv2, sv3] [(.ref a1)])) _
            refine XS.iloadN X106.here hx rfl (hb hby d8_29) rfl ?_
            exact k
          obtain ⟨cq107, kq107, qa107, qb107, qc107⟩ := isOf hZ eq106 E1
          obtain ⟨_, _, ⟨T107, L107, kk107, nn107⟩, -, X107, ⟨Lc107, hQ107, l107, y107, z107⟩, st107⟩ := X106.virtualBack hx (y := (⟨"java/lang/String", "charAt", "(I)C"⟩ : MethodName)) (z := (⟨"java/lang/String", "charAt", "(I)C"⟩ : MethodName)) hown (mvT hZ (own_w hw 54 rfl)) (mvT hZ (own_w hw 55 rfl)) (notFace_of_selects (args := #[]) (mvT hZ (own_w hw 57 rfl))) (mvT hZ (own_w hw 57 rfl)) (mvT hZ (own_w hw 56 rfl)) (by decide) (backOf (W := 0) (rmChS l Z a0 hw [] a1 i cs fv n ch h0 n0 Z0 ⟨S_C, hcs, S_F, hfv, S_A, S_H, S_L⟩ Y1 hn0 hn1 hc hi (own_fuL i n fu hfu)) hZ (own_w hw 58 rfl) (own_w hw 8 rfl) (by decide) (by decide)) qa107 qc107 (g := (mkF m 30 #[.val (.ref a1), .val (.int i), sv2, sv3] [(.int i), (.ref a1)])) rfl (by rw [hml]; rfl) (Steps.refl _) (argsL := [(.int i)]) (rest := []) (lenOf pd_15 rfl) rfl (by show 2 * 0 + _ ≤ _; exact Nat.le_of_eq rfl) (hb hby d8_30) (fun _ _ => ⟨rfl, eq106, (by decide : 0 + 0 ≤ _), (by decide : 0 + 0 ≤ _)⟩)
          dsimp only [Pt.U, Pt.locs, Pt.cells, Pt.slots] at X107 l107 y107 z107 st107 hQ107
          subst l107 y107 z107
          obtain ⟨rfl, Nq107, eq107⟩ := hQ107
          have N107 := Fr.app N106 Nq107
          refine EndsQ.go (fun t k => st107.trans k) ?_
          show EndsQ _ _ _ _ _ _ _ (T107.setTop (mkF m 33 #[.val (.ref a1), .val (.int i), sv2, sv3] [(.int (ch (i).toNatClampNeg))]))
          refine EndsQ.go (b := T107.setTop (mkF m 37 #[.val (.ref a1), .val (.int i), .val (.int (ch (i).toNatClampNeg)), sv3] [(.int (65 : Int32)), (.int (ch (i).toNatClampNeg))])) (fun t k => ?_) ?_
          · show Steps p.tables e below (T107.setTop (mkF m 33 #[.val (.ref a1), .val (.int i), sv2, sv3] [(.int (ch (i).toNatClampNeg))])) _
            refine XS.istoreNS X107.here hx rfl (hb hby d8_33) rfl rfl hs2 ?_
            refine XS.iloadN X107.here hx rfl (hb hby d8_34) rfl ?_
            refine XS.bipush X107.here hx rfl (hb hby d8_35) ?_
            show Steps p.tables e below (T107.setTop (mkF m 37 #[.val (.ref a1), .val (.int i), .val (.int (ch (i).toNatClampNeg)), sv3] [(.int (65 : Int32)), (.int (ch (i).toNatClampNeg))])) _
            exact k
          refine EndsQ.go (b := T107.setTop (mkF m 81 #[.val (.ref a1), .val (.int i), .val (.int (ch (i).toNatClampNeg)), sv3] [(.int (if (ch (i).toNatClampNeg) < (65 : Int32) then (if (ch (i).toNatClampNeg) < (97 : Int32) then (if (ch (i).toNatClampNeg) < (48 : Int32) then (if (ch (i).toNatClampNeg) = (45 : Int32) then (1 : Int32) else (0 : Int32)) else (if (57 : Int32) < (ch (i).toNatClampNeg) then (if (ch (i).toNatClampNeg) = (45 : Int32) then (1 : Int32) else (0 : Int32)) else (1 : Int32))) else (if (122 : Int32) < (ch (i).toNatClampNeg) then (if (ch (i).toNatClampNeg) < (48 : Int32) then (if (ch (i).toNatClampNeg) = (45 : Int32) then (1 : Int32) else (0 : Int32)) else (if (57 : Int32) < (ch (i).toNatClampNeg) then (if (ch (i).toNatClampNeg) = (45 : Int32) then (1 : Int32) else (0 : Int32)) else (1 : Int32))) else (1 : Int32))) else (if (90 : Int32) < (ch (i).toNatClampNeg) then (if (ch (i).toNatClampNeg) < (97 : Int32) then (if (ch (i).toNatClampNeg) < (48 : Int32) then (if (ch (i).toNatClampNeg) = (45 : Int32) then (1 : Int32) else (0 : Int32)) else (if (57 : Int32) < (ch (i).toNatClampNeg) then (if (ch (i).toNatClampNeg) = (45 : Int32) then (1 : Int32) else (0 : Int32)) else (1 : Int32))) else (if (122 : Int32) < (ch (i).toNatClampNeg) then (if (ch (i).toNatClampNeg) < (48 : Int32) then (if (ch (i).toNatClampNeg) = (45 : Int32) then (1 : Int32) else (0 : Int32)) else (if (57 : Int32) < (ch (i).toNatClampNeg) then (if (ch (i).toNatClampNeg) = (45 : Int32) then (1 : Int32) else (0 : Int32)) else (1 : Int32))) else (1 : Int32))) else (1 : Int32))))])) (fun t k => ?_) ?_
          · by_cases hc37_108 : (ch (i).toNatClampNeg) < (65 : Int32)
            · refine XS.icmpYes X107.here hx rfl (pc0 := 37) (pc' := 46) rfl (hb hby d8_37) rfl (tlt hc37_108).1 (by decide) (by decide) ?_
              show Steps p.tables e below (T107.setTop (mkF m 46 #[.val (.ref a1), .val (.int i), .val (.int (ch (i).toNatClampNeg)), sv3] [])) _
              refine XS.iloadN X107.here hx rfl (hb hby d8_46) rfl ?_
              refine XS.bipush X107.here hx rfl (hb hby d8_47) ?_
              by_cases hc49_109 : (ch (i).toNatClampNeg) < (97 : Int32)
              · refine XS.icmpYes X107.here hx rfl (pc0 := 49) (pc' := 58) rfl (hb hby d8_49) rfl (tlt hc49_109).1 (by decide) (by decide) ?_
                show Steps p.tables e below (T107.setTop (mkF m 58 #[.val (.ref a1), .val (.int i), .val (.int (ch (i).toNatClampNeg)), sv3] [])) _
                refine XS.iloadN X107.here hx rfl (hb hby d8_58) rfl ?_
                refine XS.bipush X107.here hx rfl (hb hby d8_59) ?_
                show Steps p.tables e below (T107.setTop (mkF m 61 #[.val (.ref a1), .val (.int i), .val (.int (ch (i).toNatClampNeg)), sv3] [(.int (48 : Int32)), (.int (ch (i).toNatClampNeg))])) _
                by_cases hc61_110 : (ch (i).toNatClampNeg) < (48 : Int32)
                · refine XS.icmpYes X107.here hx rfl (pc0 := 61) (pc' := 70) rfl (hb hby d8_61) rfl (tlt hc61_110).1 (by decide) (by decide) ?_
                  show Steps p.tables e below (T107.setTop (mkF m 70 #[.val (.ref a1), .val (.int i), .val (.int (ch (i).toNatClampNeg)), sv3] [])) _
                  refine XS.iloadN X107.here hx rfl (hb hby d8_70) rfl ?_
                  refine XS.bipush X107.here hx rfl (hb hby d8_71) ?_
                  by_cases hc73_111 : (ch (i).toNatClampNeg) = (45 : Int32)
                  · refine XS.icmpNo X107.here hx rfl (hb hby d8_73) rfl (teq hc73_111).2 ?_
                    show Steps p.tables e below (T107.setTop (mkF m 76 #[.val (.ref a1), .val (.int i), .val (.int (ch (i).toNatClampNeg)), sv3] [])) _
                    refine XS.iconst X107.here hx rfl (hb hby d8_76) ?_
                    refine XS.goto X107.here hx rfl (pc0 := 77) (pc' := 81) rfl (hb hby d8_77) (by decide) (by decide) ?_
                    show Steps p.tables e below (T107.setTop (mkF m 81 #[.val (.ref a1), .val (.int i), .val (.int (ch (i).toNatClampNeg)), sv3] [(.int (1 : Int32))])) _
                    have j0 : (if (ch (i).toNatClampNeg) < (65 : Int32) then (if (ch (i).toNatClampNeg) < (97 : Int32) then (if (ch (i).toNatClampNeg) < (48 : Int32) then (if (ch (i).toNatClampNeg) = (45 : Int32) then (1 : Int32) else (0 : Int32)) else (if (57 : Int32) < (ch (i).toNatClampNeg) then (if (ch (i).toNatClampNeg) = (45 : Int32) then (1 : Int32) else (0 : Int32)) else (1 : Int32))) else (if (122 : Int32) < (ch (i).toNatClampNeg) then (if (ch (i).toNatClampNeg) < (48 : Int32) then (if (ch (i).toNatClampNeg) = (45 : Int32) then (1 : Int32) else (0 : Int32)) else (if (57 : Int32) < (ch (i).toNatClampNeg) then (if (ch (i).toNatClampNeg) = (45 : Int32) then (1 : Int32) else (0 : Int32)) else (1 : Int32))) else (1 : Int32))) else (if (90 : Int32) < (ch (i).toNatClampNeg) then (if (ch (i).toNatClampNeg) < (97 : Int32) then (if (ch (i).toNatClampNeg) < (48 : Int32) then (if (ch (i).toNatClampNeg) = (45 : Int32) then (1 : Int32) else (0 : Int32)) else (if (57 : Int32) < (ch (i).toNatClampNeg) then (if (ch (i).toNatClampNeg) = (45 : Int32) then (1 : Int32) else (0 : Int32)) else (1 : Int32))) else (if (122 : Int32) < (ch (i).toNatClampNeg) then (if (ch (i).toNatClampNeg) < (48 : Int32) then (if (ch (i).toNatClampNeg) = (45 : Int32) then (1 : Int32) else (0 : Int32)) else (if (57 : Int32) < (ch (i).toNatClampNeg) then (if (ch (i).toNatClampNeg) = (45 : Int32) then (1 : Int32) else (0 : Int32)) else (1 : Int32))) else (1 : Int32))) else (1 : Int32))) = (1 : Int32) := by rw [if_pos hc37_108, if_pos hc49_109, if_pos hc61_110, if_pos hc73_111]
                    rw [j0] at k
                    exact k
                  · refine XS.icmpYes X107.here hx rfl (pc0 := 73) (pc' := 80) rfl (hb hby d8_73) rfl (feq hc73_111).2 (by decide) (by decide) ?_
                    show Steps p.tables e below (T107.setTop (mkF m 80 #[.val (.ref a1), .val (.int i), .val (.int (ch (i).toNatClampNeg)), sv3] [])) _
                    refine XS.iconst X107.here hx rfl (hb hby d8_80) ?_
                    have j0 : (if (ch (i).toNatClampNeg) < (65 : Int32) then (if (ch (i).toNatClampNeg) < (97 : Int32) then (if (ch (i).toNatClampNeg) < (48 : Int32) then (if (ch (i).toNatClampNeg) = (45 : Int32) then (1 : Int32) else (0 : Int32)) else (if (57 : Int32) < (ch (i).toNatClampNeg) then (if (ch (i).toNatClampNeg) = (45 : Int32) then (1 : Int32) else (0 : Int32)) else (1 : Int32))) else (if (122 : Int32) < (ch (i).toNatClampNeg) then (if (ch (i).toNatClampNeg) < (48 : Int32) then (if (ch (i).toNatClampNeg) = (45 : Int32) then (1 : Int32) else (0 : Int32)) else (if (57 : Int32) < (ch (i).toNatClampNeg) then (if (ch (i).toNatClampNeg) = (45 : Int32) then (1 : Int32) else (0 : Int32)) else (1 : Int32))) else (1 : Int32))) else (if (90 : Int32) < (ch (i).toNatClampNeg) then (if (ch (i).toNatClampNeg) < (97 : Int32) then (if (ch (i).toNatClampNeg) < (48 : Int32) then (if (ch (i).toNatClampNeg) = (45 : Int32) then (1 : Int32) else (0 : Int32)) else (if (57 : Int32) < (ch (i).toNatClampNeg) then (if (ch (i).toNatClampNeg) = (45 : Int32) then (1 : Int32) else (0 : Int32)) else (1 : Int32))) else (if (122 : Int32) < (ch (i).toNatClampNeg) then (if (ch (i).toNatClampNeg) < (48 : Int32) then (if (ch (i).toNatClampNeg) = (45 : Int32) then (1 : Int32) else (0 : Int32)) else (if (57 : Int32) < (ch (i).toNatClampNeg) then (if (ch (i).toNatClampNeg) = (45 : Int32) then (1 : Int32) else (0 : Int32)) else (1 : Int32))) else (1 : Int32))) else (1 : Int32))) = (0 : Int32) := by rw [if_pos hc37_108, if_pos hc49_109, if_pos hc61_110, if_neg hc73_111]
                    rw [j0] at k
                    exact k
                · refine XS.icmpNo X107.here hx rfl (hb hby d8_61) rfl (flt hc61_110).1 ?_
                  show Steps p.tables e below (T107.setTop (mkF m 64 #[.val (.ref a1), .val (.int i), .val (.int (ch (i).toNatClampNeg)), sv3] [])) _
                  refine XS.iloadN X107.here hx rfl (hb hby d8_64) rfl ?_
                  refine XS.bipush X107.here hx rfl (hb hby d8_65) ?_
                  by_cases hc67_112 : (57 : Int32) < (ch (i).toNatClampNeg)
                  · refine XS.icmpNo X107.here hx rfl (hb hby d8_67) rfl (tlt hc67_112).2.2.2 ?_
                    show Steps p.tables e below (T107.setTop (mkF m 70 #[.val (.ref a1), .val (.int i), .val (.int (ch (i).toNatClampNeg)), sv3] [])) _
                    refine XS.iloadN X107.here hx rfl (hb hby d8_70) rfl ?_
                    show Steps p.tables e below (T107.setTop (mkF m 71 #[.val (.ref a1), .val (.int i), .val (.int (ch (i).toNatClampNeg)), sv3] [(.int (ch (i).toNatClampNeg))])) _
                    refine XS.bipush X107.here hx rfl (hb hby d8_71) ?_
                    by_cases hc73_113 : (ch (i).toNatClampNeg) = (45 : Int32)
                    · refine XS.icmpNo X107.here hx rfl (hb hby d8_73) rfl (teq hc73_113).2 ?_
                      show Steps p.tables e below (T107.setTop (mkF m 76 #[.val (.ref a1), .val (.int i), .val (.int (ch (i).toNatClampNeg)), sv3] [])) _
                      refine XS.iconst X107.here hx rfl (hb hby d8_76) ?_
                      refine XS.goto X107.here hx rfl (pc0 := 77) (pc' := 81) rfl (hb hby d8_77) (by decide) (by decide) ?_
                      have j0 : (if (ch (i).toNatClampNeg) < (65 : Int32) then (if (ch (i).toNatClampNeg) < (97 : Int32) then (if (ch (i).toNatClampNeg) < (48 : Int32) then (if (ch (i).toNatClampNeg) = (45 : Int32) then (1 : Int32) else (0 : Int32)) else (if (57 : Int32) < (ch (i).toNatClampNeg) then (if (ch (i).toNatClampNeg) = (45 : Int32) then (1 : Int32) else (0 : Int32)) else (1 : Int32))) else (if (122 : Int32) < (ch (i).toNatClampNeg) then (if (ch (i).toNatClampNeg) < (48 : Int32) then (if (ch (i).toNatClampNeg) = (45 : Int32) then (1 : Int32) else (0 : Int32)) else (if (57 : Int32) < (ch (i).toNatClampNeg) then (if (ch (i).toNatClampNeg) = (45 : Int32) then (1 : Int32) else (0 : Int32)) else (1 : Int32))) else (1 : Int32))) else (if (90 : Int32) < (ch (i).toNatClampNeg) then (if (ch (i).toNatClampNeg) < (97 : Int32) then (if (ch (i).toNatClampNeg) < (48 : Int32) then (if (ch (i).toNatClampNeg) = (45 : Int32) then (1 : Int32) else (0 : Int32)) else (if (57 : Int32) < (ch (i).toNatClampNeg) then (if (ch (i).toNatClampNeg) = (45 : Int32) then (1 : Int32) else (0 : Int32)) else (1 : Int32))) else (if (122 : Int32) < (ch (i).toNatClampNeg) then (if (ch (i).toNatClampNeg) < (48 : Int32) then (if (ch (i).toNatClampNeg) = (45 : Int32) then (1 : Int32) else (0 : Int32)) else (if (57 : Int32) < (ch (i).toNatClampNeg) then (if (ch (i).toNatClampNeg) = (45 : Int32) then (1 : Int32) else (0 : Int32)) else (1 : Int32))) else (1 : Int32))) else (1 : Int32))) = (1 : Int32) := by rw [if_pos hc37_108, if_pos hc49_109, if_neg hc61_110, if_pos hc67_112, if_pos hc73_113]
                      rw [j0] at k
                      exact k
                    · refine XS.icmpYes X107.here hx rfl (pc0 := 73) (pc' := 80) rfl (hb hby d8_73) rfl (feq hc73_113).2 (by decide) (by decide) ?_
                      show Steps p.tables e below (T107.setTop (mkF m 80 #[.val (.ref a1), .val (.int i), .val (.int (ch (i).toNatClampNeg)), sv3] [])) _
                      refine XS.iconst X107.here hx rfl (hb hby d8_80) ?_
                      show Steps p.tables e below (T107.setTop (mkF m 81 #[.val (.ref a1), .val (.int i), .val (.int (ch (i).toNatClampNeg)), sv3] [(.int (0 : Int32))])) _
                      have j0 : (if (ch (i).toNatClampNeg) < (65 : Int32) then (if (ch (i).toNatClampNeg) < (97 : Int32) then (if (ch (i).toNatClampNeg) < (48 : Int32) then (if (ch (i).toNatClampNeg) = (45 : Int32) then (1 : Int32) else (0 : Int32)) else (if (57 : Int32) < (ch (i).toNatClampNeg) then (if (ch (i).toNatClampNeg) = (45 : Int32) then (1 : Int32) else (0 : Int32)) else (1 : Int32))) else (if (122 : Int32) < (ch (i).toNatClampNeg) then (if (ch (i).toNatClampNeg) < (48 : Int32) then (if (ch (i).toNatClampNeg) = (45 : Int32) then (1 : Int32) else (0 : Int32)) else (if (57 : Int32) < (ch (i).toNatClampNeg) then (if (ch (i).toNatClampNeg) = (45 : Int32) then (1 : Int32) else (0 : Int32)) else (1 : Int32))) else (1 : Int32))) else (if (90 : Int32) < (ch (i).toNatClampNeg) then (if (ch (i).toNatClampNeg) < (97 : Int32) then (if (ch (i).toNatClampNeg) < (48 : Int32) then (if (ch (i).toNatClampNeg) = (45 : Int32) then (1 : Int32) else (0 : Int32)) else (if (57 : Int32) < (ch (i).toNatClampNeg) then (if (ch (i).toNatClampNeg) = (45 : Int32) then (1 : Int32) else (0 : Int32)) else (1 : Int32))) else (if (122 : Int32) < (ch (i).toNatClampNeg) then (if (ch (i).toNatClampNeg) < (48 : Int32) then (if (ch (i).toNatClampNeg) = (45 : Int32) then (1 : Int32) else (0 : Int32)) else (if (57 : Int32) < (ch (i).toNatClampNeg) then (if (ch (i).toNatClampNeg) = (45 : Int32) then (1 : Int32) else (0 : Int32)) else (1 : Int32))) else (1 : Int32))) else (1 : Int32))) = (0 : Int32) := by rw [if_pos hc37_108, if_pos hc49_109, if_neg hc61_110, if_pos hc67_112, if_neg hc73_113]
                      rw [j0] at k
                      exact k
                  · refine XS.icmpYes X107.here hx rfl (pc0 := 67) (pc' := 76) rfl (hb hby d8_67) rfl (flt hc67_112).2.2.2 (by decide) (by decide) ?_
                    show Steps p.tables e below (T107.setTop (mkF m 76 #[.val (.ref a1), .val (.int i), .val (.int (ch (i).toNatClampNeg)), sv3] [])) _
                    refine XS.iconst X107.here hx rfl (hb hby d8_76) ?_
                    refine XS.goto X107.here hx rfl (pc0 := 77) (pc' := 81) rfl (hb hby d8_77) (by decide) (by decide) ?_
                    have j0 : (if (ch (i).toNatClampNeg) < (65 : Int32) then (if (ch (i).toNatClampNeg) < (97 : Int32) then (if (ch (i).toNatClampNeg) < (48 : Int32) then (if (ch (i).toNatClampNeg) = (45 : Int32) then (1 : Int32) else (0 : Int32)) else (if (57 : Int32) < (ch (i).toNatClampNeg) then (if (ch (i).toNatClampNeg) = (45 : Int32) then (1 : Int32) else (0 : Int32)) else (1 : Int32))) else (if (122 : Int32) < (ch (i).toNatClampNeg) then (if (ch (i).toNatClampNeg) < (48 : Int32) then (if (ch (i).toNatClampNeg) = (45 : Int32) then (1 : Int32) else (0 : Int32)) else (if (57 : Int32) < (ch (i).toNatClampNeg) then (if (ch (i).toNatClampNeg) = (45 : Int32) then (1 : Int32) else (0 : Int32)) else (1 : Int32))) else (1 : Int32))) else (if (90 : Int32) < (ch (i).toNatClampNeg) then (if (ch (i).toNatClampNeg) < (97 : Int32) then (if (ch (i).toNatClampNeg) < (48 : Int32) then (if (ch (i).toNatClampNeg) = (45 : Int32) then (1 : Int32) else (0 : Int32)) else (if (57 : Int32) < (ch (i).toNatClampNeg) then (if (ch (i).toNatClampNeg) = (45 : Int32) then (1 : Int32) else (0 : Int32)) else (1 : Int32))) else (if (122 : Int32) < (ch (i).toNatClampNeg) then (if (ch (i).toNatClampNeg) < (48 : Int32) then (if (ch (i).toNatClampNeg) = (45 : Int32) then (1 : Int32) else (0 : Int32)) else (if (57 : Int32) < (ch (i).toNatClampNeg) then (if (ch (i).toNatClampNeg) = (45 : Int32) then (1 : Int32) else (0 : Int32)) else (1 : Int32))) else (1 : Int32))) else (1 : Int32))) = (1 : Int32) := by rw [if_pos hc37_108, if_pos hc49_109, if_neg hc61_110, if_neg hc67_112]
                    rw [j0] at k
                    exact k
              · refine XS.icmpNo X107.here hx rfl (hb hby d8_49) rfl (flt hc49_109).1 ?_
                show Steps p.tables e below (T107.setTop (mkF m 52 #[.val (.ref a1), .val (.int i), .val (.int (ch (i).toNatClampNeg)), sv3] [])) _
                refine XS.iloadN X107.here hx rfl (hb hby d8_52) rfl ?_
                refine XS.bipush X107.here hx rfl (hb hby d8_53) ?_
                show Steps p.tables e below (T107.setTop (mkF m 55 #[.val (.ref a1), .val (.int i), .val (.int (ch (i).toNatClampNeg)), sv3] [(.int (122 : Int32)), (.int (ch (i).toNatClampNeg))])) _
                by_cases hc55_114 : (122 : Int32) < (ch (i).toNatClampNeg)
                · refine XS.icmpNo X107.here hx rfl (hb hby d8_55) rfl (tlt hc55_114).2.2.2 ?_
                  show Steps p.tables e below (T107.setTop (mkF m 58 #[.val (.ref a1), .val (.int i), .val (.int (ch (i).toNatClampNeg)), sv3] [])) _
                  refine XS.iloadN X107.here hx rfl (hb hby d8_58) rfl ?_
                  refine XS.bipush X107.here hx rfl (hb hby d8_59) ?_
                  by_cases hc61_115 : (ch (i).toNatClampNeg) < (48 : Int32)
                  · refine XS.icmpYes X107.here hx rfl (pc0 := 61) (pc' := 70) rfl (hb hby d8_61) rfl (tlt hc61_115).1 (by decide) (by decide) ?_
                    show Steps p.tables e below (T107.setTop (mkF m 70 #[.val (.ref a1), .val (.int i), .val (.int (ch (i).toNatClampNeg)), sv3] [])) _
                    refine XS.iloadN X107.here hx rfl (hb hby d8_70) rfl ?_
                    refine XS.bipush X107.here hx rfl (hb hby d8_71) ?_
                    show Steps p.tables e below (T107.setTop (mkF m 73 #[.val (.ref a1), .val (.int i), .val (.int (ch (i).toNatClampNeg)), sv3] [(.int (45 : Int32)), (.int (ch (i).toNatClampNeg))])) _
                    by_cases hc73_116 : (ch (i).toNatClampNeg) = (45 : Int32)
                    · refine XS.icmpNo X107.here hx rfl (hb hby d8_73) rfl (teq hc73_116).2 ?_
                      show Steps p.tables e below (T107.setTop (mkF m 76 #[.val (.ref a1), .val (.int i), .val (.int (ch (i).toNatClampNeg)), sv3] [])) _
                      refine XS.iconst X107.here hx rfl (hb hby d8_76) ?_
                      refine XS.goto X107.here hx rfl (pc0 := 77) (pc' := 81) rfl (hb hby d8_77) (by decide) (by decide) ?_
                      have j0 : (if (ch (i).toNatClampNeg) < (65 : Int32) then (if (ch (i).toNatClampNeg) < (97 : Int32) then (if (ch (i).toNatClampNeg) < (48 : Int32) then (if (ch (i).toNatClampNeg) = (45 : Int32) then (1 : Int32) else (0 : Int32)) else (if (57 : Int32) < (ch (i).toNatClampNeg) then (if (ch (i).toNatClampNeg) = (45 : Int32) then (1 : Int32) else (0 : Int32)) else (1 : Int32))) else (if (122 : Int32) < (ch (i).toNatClampNeg) then (if (ch (i).toNatClampNeg) < (48 : Int32) then (if (ch (i).toNatClampNeg) = (45 : Int32) then (1 : Int32) else (0 : Int32)) else (if (57 : Int32) < (ch (i).toNatClampNeg) then (if (ch (i).toNatClampNeg) = (45 : Int32) then (1 : Int32) else (0 : Int32)) else (1 : Int32))) else (1 : Int32))) else (if (90 : Int32) < (ch (i).toNatClampNeg) then (if (ch (i).toNatClampNeg) < (97 : Int32) then (if (ch (i).toNatClampNeg) < (48 : Int32) then (if (ch (i).toNatClampNeg) = (45 : Int32) then (1 : Int32) else (0 : Int32)) else (if (57 : Int32) < (ch (i).toNatClampNeg) then (if (ch (i).toNatClampNeg) = (45 : Int32) then (1 : Int32) else (0 : Int32)) else (1 : Int32))) else (if (122 : Int32) < (ch (i).toNatClampNeg) then (if (ch (i).toNatClampNeg) < (48 : Int32) then (if (ch (i).toNatClampNeg) = (45 : Int32) then (1 : Int32) else (0 : Int32)) else (if (57 : Int32) < (ch (i).toNatClampNeg) then (if (ch (i).toNatClampNeg) = (45 : Int32) then (1 : Int32) else (0 : Int32)) else (1 : Int32))) else (1 : Int32))) else (1 : Int32))) = (1 : Int32) := by rw [if_pos hc37_108, if_neg hc49_109, if_pos hc55_114, if_pos hc61_115, if_pos hc73_116]
                      rw [j0] at k
                      exact k
                    · refine XS.icmpYes X107.here hx rfl (pc0 := 73) (pc' := 80) rfl (hb hby d8_73) rfl (feq hc73_116).2 (by decide) (by decide) ?_
                      show Steps p.tables e below (T107.setTop (mkF m 80 #[.val (.ref a1), .val (.int i), .val (.int (ch (i).toNatClampNeg)), sv3] [])) _
                      refine XS.iconst X107.here hx rfl (hb hby d8_80) ?_
                      have j0 : (if (ch (i).toNatClampNeg) < (65 : Int32) then (if (ch (i).toNatClampNeg) < (97 : Int32) then (if (ch (i).toNatClampNeg) < (48 : Int32) then (if (ch (i).toNatClampNeg) = (45 : Int32) then (1 : Int32) else (0 : Int32)) else (if (57 : Int32) < (ch (i).toNatClampNeg) then (if (ch (i).toNatClampNeg) = (45 : Int32) then (1 : Int32) else (0 : Int32)) else (1 : Int32))) else (if (122 : Int32) < (ch (i).toNatClampNeg) then (if (ch (i).toNatClampNeg) < (48 : Int32) then (if (ch (i).toNatClampNeg) = (45 : Int32) then (1 : Int32) else (0 : Int32)) else (if (57 : Int32) < (ch (i).toNatClampNeg) then (if (ch (i).toNatClampNeg) = (45 : Int32) then (1 : Int32) else (0 : Int32)) else (1 : Int32))) else (1 : Int32))) else (if (90 : Int32) < (ch (i).toNatClampNeg) then (if (ch (i).toNatClampNeg) < (97 : Int32) then (if (ch (i).toNatClampNeg) < (48 : Int32) then (if (ch (i).toNatClampNeg) = (45 : Int32) then (1 : Int32) else (0 : Int32)) else (if (57 : Int32) < (ch (i).toNatClampNeg) then (if (ch (i).toNatClampNeg) = (45 : Int32) then (1 : Int32) else (0 : Int32)) else (1 : Int32))) else (if (122 : Int32) < (ch (i).toNatClampNeg) then (if (ch (i).toNatClampNeg) < (48 : Int32) then (if (ch (i).toNatClampNeg) = (45 : Int32) then (1 : Int32) else (0 : Int32)) else (if (57 : Int32) < (ch (i).toNatClampNeg) then (if (ch (i).toNatClampNeg) = (45 : Int32) then (1 : Int32) else (0 : Int32)) else (1 : Int32))) else (1 : Int32))) else (1 : Int32))) = (0 : Int32) := by rw [if_pos hc37_108, if_neg hc49_109, if_pos hc55_114, if_pos hc61_115, if_neg hc73_116]
                      rw [j0] at k
                      exact k
                  · refine XS.icmpNo X107.here hx rfl (hb hby d8_61) rfl (flt hc61_115).1 ?_
                    show Steps p.tables e below (T107.setTop (mkF m 64 #[.val (.ref a1), .val (.int i), .val (.int (ch (i).toNatClampNeg)), sv3] [])) _
                    refine XS.iloadN X107.here hx rfl (hb hby d8_64) rfl ?_
                    show Steps p.tables e below (T107.setTop (mkF m 65 #[.val (.ref a1), .val (.int i), .val (.int (ch (i).toNatClampNeg)), sv3] [(.int (ch (i).toNatClampNeg))])) _
                    refine XS.bipush X107.here hx rfl (hb hby d8_65) ?_
                    by_cases hc67_117 : (57 : Int32) < (ch (i).toNatClampNeg)
                    · refine XS.icmpNo X107.here hx rfl (hb hby d8_67) rfl (tlt hc67_117).2.2.2 ?_
                      show Steps p.tables e below (T107.setTop (mkF m 70 #[.val (.ref a1), .val (.int i), .val (.int (ch (i).toNatClampNeg)), sv3] [])) _
                      refine XS.iloadN X107.here hx rfl (hb hby d8_70) rfl ?_
                      refine XS.bipush X107.here hx rfl (hb hby d8_71) ?_
                      by_cases hc73_118 : (ch (i).toNatClampNeg) = (45 : Int32)
                      · refine XS.icmpNo X107.here hx rfl (hb hby d8_73) rfl (teq hc73_118).2 ?_
                        show Steps p.tables e below (T107.setTop (mkF m 76 #[.val (.ref a1), .val (.int i), .val (.int (ch (i).toNatClampNeg)), sv3] [])) _
                        refine XS.iconst X107.here hx rfl (hb hby d8_76) ?_
                        show Steps p.tables e below (T107.setTop (mkF m 77 #[.val (.ref a1), .val (.int i), .val (.int (ch (i).toNatClampNeg)), sv3] [(.int (1 : Int32))])) _
                        refine XS.goto X107.here hx rfl (pc0 := 77) (pc' := 81) rfl (hb hby d8_77) (by decide) (by decide) ?_
                        have j0 : (if (ch (i).toNatClampNeg) < (65 : Int32) then (if (ch (i).toNatClampNeg) < (97 : Int32) then (if (ch (i).toNatClampNeg) < (48 : Int32) then (if (ch (i).toNatClampNeg) = (45 : Int32) then (1 : Int32) else (0 : Int32)) else (if (57 : Int32) < (ch (i).toNatClampNeg) then (if (ch (i).toNatClampNeg) = (45 : Int32) then (1 : Int32) else (0 : Int32)) else (1 : Int32))) else (if (122 : Int32) < (ch (i).toNatClampNeg) then (if (ch (i).toNatClampNeg) < (48 : Int32) then (if (ch (i).toNatClampNeg) = (45 : Int32) then (1 : Int32) else (0 : Int32)) else (if (57 : Int32) < (ch (i).toNatClampNeg) then (if (ch (i).toNatClampNeg) = (45 : Int32) then (1 : Int32) else (0 : Int32)) else (1 : Int32))) else (1 : Int32))) else (if (90 : Int32) < (ch (i).toNatClampNeg) then (if (ch (i).toNatClampNeg) < (97 : Int32) then (if (ch (i).toNatClampNeg) < (48 : Int32) then (if (ch (i).toNatClampNeg) = (45 : Int32) then (1 : Int32) else (0 : Int32)) else (if (57 : Int32) < (ch (i).toNatClampNeg) then (if (ch (i).toNatClampNeg) = (45 : Int32) then (1 : Int32) else (0 : Int32)) else (1 : Int32))) else (if (122 : Int32) < (ch (i).toNatClampNeg) then (if (ch (i).toNatClampNeg) < (48 : Int32) then (if (ch (i).toNatClampNeg) = (45 : Int32) then (1 : Int32) else (0 : Int32)) else (if (57 : Int32) < (ch (i).toNatClampNeg) then (if (ch (i).toNatClampNeg) = (45 : Int32) then (1 : Int32) else (0 : Int32)) else (1 : Int32))) else (1 : Int32))) else (1 : Int32))) = (1 : Int32) := by rw [if_pos hc37_108, if_neg hc49_109, if_pos hc55_114, if_neg hc61_115, if_pos hc67_117, if_pos hc73_118]
                        rw [j0] at k
                        exact k
                      · refine XS.icmpYes X107.here hx rfl (pc0 := 73) (pc' := 80) rfl (hb hby d8_73) rfl (feq hc73_118).2 (by decide) (by decide) ?_
                        show Steps p.tables e below (T107.setTop (mkF m 80 #[.val (.ref a1), .val (.int i), .val (.int (ch (i).toNatClampNeg)), sv3] [])) _
                        refine XS.iconst X107.here hx rfl (hb hby d8_80) ?_
                        have j0 : (if (ch (i).toNatClampNeg) < (65 : Int32) then (if (ch (i).toNatClampNeg) < (97 : Int32) then (if (ch (i).toNatClampNeg) < (48 : Int32) then (if (ch (i).toNatClampNeg) = (45 : Int32) then (1 : Int32) else (0 : Int32)) else (if (57 : Int32) < (ch (i).toNatClampNeg) then (if (ch (i).toNatClampNeg) = (45 : Int32) then (1 : Int32) else (0 : Int32)) else (1 : Int32))) else (if (122 : Int32) < (ch (i).toNatClampNeg) then (if (ch (i).toNatClampNeg) < (48 : Int32) then (if (ch (i).toNatClampNeg) = (45 : Int32) then (1 : Int32) else (0 : Int32)) else (if (57 : Int32) < (ch (i).toNatClampNeg) then (if (ch (i).toNatClampNeg) = (45 : Int32) then (1 : Int32) else (0 : Int32)) else (1 : Int32))) else (1 : Int32))) else (if (90 : Int32) < (ch (i).toNatClampNeg) then (if (ch (i).toNatClampNeg) < (97 : Int32) then (if (ch (i).toNatClampNeg) < (48 : Int32) then (if (ch (i).toNatClampNeg) = (45 : Int32) then (1 : Int32) else (0 : Int32)) else (if (57 : Int32) < (ch (i).toNatClampNeg) then (if (ch (i).toNatClampNeg) = (45 : Int32) then (1 : Int32) else (0 : Int32)) else (1 : Int32))) else (if (122 : Int32) < (ch (i).toNatClampNeg) then (if (ch (i).toNatClampNeg) < (48 : Int32) then (if (ch (i).toNatClampNeg) = (45 : Int32) then (1 : Int32) else (0 : Int32)) else (if (57 : Int32) < (ch (i).toNatClampNeg) then (if (ch (i).toNatClampNeg) = (45 : Int32) then (1 : Int32) else (0 : Int32)) else (1 : Int32))) else (1 : Int32))) else (1 : Int32))) = (0 : Int32) := by rw [if_pos hc37_108, if_neg hc49_109, if_pos hc55_114, if_neg hc61_115, if_pos hc67_117, if_neg hc73_118]
                        rw [j0] at k
                        exact k
                    · refine XS.icmpYes X107.here hx rfl (pc0 := 67) (pc' := 76) rfl (hb hby d8_67) rfl (flt hc67_117).2.2.2 (by decide) (by decide) ?_
                      show Steps p.tables e below (T107.setTop (mkF m 76 #[.val (.ref a1), .val (.int i), .val (.int (ch (i).toNatClampNeg)), sv3] [])) _
                      refine XS.iconst X107.here hx rfl (hb hby d8_76) ?_
                      refine XS.goto X107.here hx rfl (pc0 := 77) (pc' := 81) rfl (hb hby d8_77) (by decide) (by decide) ?_
                      show Steps p.tables e below (T107.setTop (mkF m 81 #[.val (.ref a1), .val (.int i), .val (.int (ch (i).toNatClampNeg)), sv3] [(.int (1 : Int32))])) _
                      have j0 : (if (ch (i).toNatClampNeg) < (65 : Int32) then (if (ch (i).toNatClampNeg) < (97 : Int32) then (if (ch (i).toNatClampNeg) < (48 : Int32) then (if (ch (i).toNatClampNeg) = (45 : Int32) then (1 : Int32) else (0 : Int32)) else (if (57 : Int32) < (ch (i).toNatClampNeg) then (if (ch (i).toNatClampNeg) = (45 : Int32) then (1 : Int32) else (0 : Int32)) else (1 : Int32))) else (if (122 : Int32) < (ch (i).toNatClampNeg) then (if (ch (i).toNatClampNeg) < (48 : Int32) then (if (ch (i).toNatClampNeg) = (45 : Int32) then (1 : Int32) else (0 : Int32)) else (if (57 : Int32) < (ch (i).toNatClampNeg) then (if (ch (i).toNatClampNeg) = (45 : Int32) then (1 : Int32) else (0 : Int32)) else (1 : Int32))) else (1 : Int32))) else (if (90 : Int32) < (ch (i).toNatClampNeg) then (if (ch (i).toNatClampNeg) < (97 : Int32) then (if (ch (i).toNatClampNeg) < (48 : Int32) then (if (ch (i).toNatClampNeg) = (45 : Int32) then (1 : Int32) else (0 : Int32)) else (if (57 : Int32) < (ch (i).toNatClampNeg) then (if (ch (i).toNatClampNeg) = (45 : Int32) then (1 : Int32) else (0 : Int32)) else (1 : Int32))) else (if (122 : Int32) < (ch (i).toNatClampNeg) then (if (ch (i).toNatClampNeg) < (48 : Int32) then (if (ch (i).toNatClampNeg) = (45 : Int32) then (1 : Int32) else (0 : Int32)) else (if (57 : Int32) < (ch (i).toNatClampNeg) then (if (ch (i).toNatClampNeg) = (45 : Int32) then (1 : Int32) else (0 : Int32)) else (1 : Int32))) else (1 : Int32))) else (1 : Int32))) = (1 : Int32) := by rw [if_pos hc37_108, if_neg hc49_109, if_pos hc55_114, if_neg hc61_115, if_neg hc67_117]
                      rw [j0] at k
                      exact k
                · refine XS.icmpYes X107.here hx rfl (pc0 := 55) (pc' := 76) rfl (hb hby d8_55) rfl (flt hc55_114).2.2.2 (by decide) (by decide) ?_
                  show Steps p.tables e below (T107.setTop (mkF m 76 #[.val (.ref a1), .val (.int i), .val (.int (ch (i).toNatClampNeg)), sv3] [])) _
                  refine XS.iconst X107.here hx rfl (hb hby d8_76) ?_
                  refine XS.goto X107.here hx rfl (pc0 := 77) (pc' := 81) rfl (hb hby d8_77) (by decide) (by decide) ?_
                  have j0 : (if (ch (i).toNatClampNeg) < (65 : Int32) then (if (ch (i).toNatClampNeg) < (97 : Int32) then (if (ch (i).toNatClampNeg) < (48 : Int32) then (if (ch (i).toNatClampNeg) = (45 : Int32) then (1 : Int32) else (0 : Int32)) else (if (57 : Int32) < (ch (i).toNatClampNeg) then (if (ch (i).toNatClampNeg) = (45 : Int32) then (1 : Int32) else (0 : Int32)) else (1 : Int32))) else (if (122 : Int32) < (ch (i).toNatClampNeg) then (if (ch (i).toNatClampNeg) < (48 : Int32) then (if (ch (i).toNatClampNeg) = (45 : Int32) then (1 : Int32) else (0 : Int32)) else (if (57 : Int32) < (ch (i).toNatClampNeg) then (if (ch (i).toNatClampNeg) = (45 : Int32) then (1 : Int32) else (0 : Int32)) else (1 : Int32))) else (1 : Int32))) else (if (90 : Int32) < (ch (i).toNatClampNeg) then (if (ch (i).toNatClampNeg) < (97 : Int32) then (if (ch (i).toNatClampNeg) < (48 : Int32) then (if (ch (i).toNatClampNeg) = (45 : Int32) then (1 : Int32) else (0 : Int32)) else (if (57 : Int32) < (ch (i).toNatClampNeg) then (if (ch (i).toNatClampNeg) = (45 : Int32) then (1 : Int32) else (0 : Int32)) else (1 : Int32))) else (if (122 : Int32) < (ch (i).toNatClampNeg) then (if (ch (i).toNatClampNeg) < (48 : Int32) then (if (ch (i).toNatClampNeg) = (45 : Int32) then (1 : Int32) else (0 : Int32)) else (if (57 : Int32) < (ch (i).toNatClampNeg) then (if (ch (i).toNatClampNeg) = (45 : Int32) then (1 : Int32) else (0 : Int32)) else (1 : Int32))) else (1 : Int32))) else (1 : Int32))) = (1 : Int32) := by rw [if_pos hc37_108, if_neg hc49_109, if_neg hc55_114]
                  rw [j0] at k
                  exact k
            · refine XS.icmpNo X107.here hx rfl (hb hby d8_37) rfl (flt hc37_108).1 ?_
              show Steps p.tables e below (T107.setTop (mkF m 40 #[.val (.ref a1), .val (.int i), .val (.int (ch (i).toNatClampNeg)), sv3] [])) _
              refine XS.iloadN X107.here hx rfl (hb hby d8_40) rfl ?_
              refine XS.bipush X107.here hx rfl (hb hby d8_41) ?_
              show Steps p.tables e below (T107.setTop (mkF m 43 #[.val (.ref a1), .val (.int i), .val (.int (ch (i).toNatClampNeg)), sv3] [(.int (90 : Int32)), (.int (ch (i).toNatClampNeg))])) _
              by_cases hc43_119 : (90 : Int32) < (ch (i).toNatClampNeg)
              · refine XS.icmpNo X107.here hx rfl (hb hby d8_43) rfl (tlt hc43_119).2.2.2 ?_
                show Steps p.tables e below (T107.setTop (mkF m 46 #[.val (.ref a1), .val (.int i), .val (.int (ch (i).toNatClampNeg)), sv3] [])) _
                refine XS.iloadN X107.here hx rfl (hb hby d8_46) rfl ?_
                refine XS.bipush X107.here hx rfl (hb hby d8_47) ?_
                by_cases hc49_120 : (ch (i).toNatClampNeg) < (97 : Int32)
                · refine XS.icmpYes X107.here hx rfl (pc0 := 49) (pc' := 58) rfl (hb hby d8_49) rfl (tlt hc49_120).1 (by decide) (by decide) ?_
                  show Steps p.tables e below (T107.setTop (mkF m 58 #[.val (.ref a1), .val (.int i), .val (.int (ch (i).toNatClampNeg)), sv3] [])) _
                  refine XS.iloadN X107.here hx rfl (hb hby d8_58) rfl ?_
                  refine XS.bipush X107.here hx rfl (hb hby d8_59) ?_
                  show Steps p.tables e below (T107.setTop (mkF m 61 #[.val (.ref a1), .val (.int i), .val (.int (ch (i).toNatClampNeg)), sv3] [(.int (48 : Int32)), (.int (ch (i).toNatClampNeg))])) _
                  by_cases hc61_121 : (ch (i).toNatClampNeg) < (48 : Int32)
                  · refine XS.icmpYes X107.here hx rfl (pc0 := 61) (pc' := 70) rfl (hb hby d8_61) rfl (tlt hc61_121).1 (by decide) (by decide) ?_
                    show Steps p.tables e below (T107.setTop (mkF m 70 #[.val (.ref a1), .val (.int i), .val (.int (ch (i).toNatClampNeg)), sv3] [])) _
                    refine XS.iloadN X107.here hx rfl (hb hby d8_70) rfl ?_
                    refine XS.bipush X107.here hx rfl (hb hby d8_71) ?_
                    by_cases hc73_122 : (ch (i).toNatClampNeg) = (45 : Int32)
                    · refine XS.icmpNo X107.here hx rfl (hb hby d8_73) rfl (teq hc73_122).2 ?_
                      show Steps p.tables e below (T107.setTop (mkF m 76 #[.val (.ref a1), .val (.int i), .val (.int (ch (i).toNatClampNeg)), sv3] [])) _
                      refine XS.iconst X107.here hx rfl (hb hby d8_76) ?_
                      refine XS.goto X107.here hx rfl (pc0 := 77) (pc' := 81) rfl (hb hby d8_77) (by decide) (by decide) ?_
                      show Steps p.tables e below (T107.setTop (mkF m 81 #[.val (.ref a1), .val (.int i), .val (.int (ch (i).toNatClampNeg)), sv3] [(.int (1 : Int32))])) _
                      have j0 : (if (ch (i).toNatClampNeg) < (65 : Int32) then (if (ch (i).toNatClampNeg) < (97 : Int32) then (if (ch (i).toNatClampNeg) < (48 : Int32) then (if (ch (i).toNatClampNeg) = (45 : Int32) then (1 : Int32) else (0 : Int32)) else (if (57 : Int32) < (ch (i).toNatClampNeg) then (if (ch (i).toNatClampNeg) = (45 : Int32) then (1 : Int32) else (0 : Int32)) else (1 : Int32))) else (if (122 : Int32) < (ch (i).toNatClampNeg) then (if (ch (i).toNatClampNeg) < (48 : Int32) then (if (ch (i).toNatClampNeg) = (45 : Int32) then (1 : Int32) else (0 : Int32)) else (if (57 : Int32) < (ch (i).toNatClampNeg) then (if (ch (i).toNatClampNeg) = (45 : Int32) then (1 : Int32) else (0 : Int32)) else (1 : Int32))) else (1 : Int32))) else (if (90 : Int32) < (ch (i).toNatClampNeg) then (if (ch (i).toNatClampNeg) < (97 : Int32) then (if (ch (i).toNatClampNeg) < (48 : Int32) then (if (ch (i).toNatClampNeg) = (45 : Int32) then (1 : Int32) else (0 : Int32)) else (if (57 : Int32) < (ch (i).toNatClampNeg) then (if (ch (i).toNatClampNeg) = (45 : Int32) then (1 : Int32) else (0 : Int32)) else (1 : Int32))) else (if (122 : Int32) < (ch (i).toNatClampNeg) then (if (ch (i).toNatClampNeg) < (48 : Int32) then (if (ch (i).toNatClampNeg) = (45 : Int32) then (1 : Int32) else (0 : Int32)) else (if (57 : Int32) < (ch (i).toNatClampNeg) then (if (ch (i).toNatClampNeg) = (45 : Int32) then (1 : Int32) else (0 : Int32)) else (1 : Int32))) else (1 : Int32))) else (1 : Int32))) = (1 : Int32) := by rw [if_neg hc37_108, if_pos hc43_119, if_pos hc49_120, if_pos hc61_121, if_pos hc73_122]
                      rw [j0] at k
                      exact k
                    · refine XS.icmpYes X107.here hx rfl (pc0 := 73) (pc' := 80) rfl (hb hby d8_73) rfl (feq hc73_122).2 (by decide) (by decide) ?_
                      show Steps p.tables e below (T107.setTop (mkF m 80 #[.val (.ref a1), .val (.int i), .val (.int (ch (i).toNatClampNeg)), sv3] [])) _
                      refine XS.iconst X107.here hx rfl (hb hby d8_80) ?_
                      have j0 : (if (ch (i).toNatClampNeg) < (65 : Int32) then (if (ch (i).toNatClampNeg) < (97 : Int32) then (if (ch (i).toNatClampNeg) < (48 : Int32) then (if (ch (i).toNatClampNeg) = (45 : Int32) then (1 : Int32) else (0 : Int32)) else (if (57 : Int32) < (ch (i).toNatClampNeg) then (if (ch (i).toNatClampNeg) = (45 : Int32) then (1 : Int32) else (0 : Int32)) else (1 : Int32))) else (if (122 : Int32) < (ch (i).toNatClampNeg) then (if (ch (i).toNatClampNeg) < (48 : Int32) then (if (ch (i).toNatClampNeg) = (45 : Int32) then (1 : Int32) else (0 : Int32)) else (if (57 : Int32) < (ch (i).toNatClampNeg) then (if (ch (i).toNatClampNeg) = (45 : Int32) then (1 : Int32) else (0 : Int32)) else (1 : Int32))) else (1 : Int32))) else (if (90 : Int32) < (ch (i).toNatClampNeg) then (if (ch (i).toNatClampNeg) < (97 : Int32) then (if (ch (i).toNatClampNeg) < (48 : Int32) then (if (ch (i).toNatClampNeg) = (45 : Int32) then (1 : Int32) else (0 : Int32)) else (if (57 : Int32) < (ch (i).toNatClampNeg) then (if (ch (i).toNatClampNeg) = (45 : Int32) then (1 : Int32) else (0 : Int32)) else (1 : Int32))) else (if (122 : Int32) < (ch (i).toNatClampNeg) then (if (ch (i).toNatClampNeg) < (48 : Int32) then (if (ch (i).toNatClampNeg) = (45 : Int32) then (1 : Int32) else (0 : Int32)) else (if (57 : Int32) < (ch (i).toNatClampNeg) then (if (ch (i).toNatClampNeg) = (45 : Int32) then (1 : Int32) else (0 : Int32)) else (1 : Int32))) else (1 : Int32))) else (1 : Int32))) = (0 : Int32) := by rw [if_neg hc37_108, if_pos hc43_119, if_pos hc49_120, if_pos hc61_121, if_neg hc73_122]
                      rw [j0] at k
                      exact k
                  · refine XS.icmpNo X107.here hx rfl (hb hby d8_61) rfl (flt hc61_121).1 ?_
                    show Steps p.tables e below (T107.setTop (mkF m 64 #[.val (.ref a1), .val (.int i), .val (.int (ch (i).toNatClampNeg)), sv3] [])) _
                    refine XS.iloadN X107.here hx rfl (hb hby d8_64) rfl ?_
                    refine XS.bipush X107.here hx rfl (hb hby d8_65) ?_
                    by_cases hc67_123 : (57 : Int32) < (ch (i).toNatClampNeg)
                    · refine XS.icmpNo X107.here hx rfl (hb hby d8_67) rfl (tlt hc67_123).2.2.2 ?_
                      show Steps p.tables e below (T107.setTop (mkF m 70 #[.val (.ref a1), .val (.int i), .val (.int (ch (i).toNatClampNeg)), sv3] [])) _
                      refine XS.iloadN X107.here hx rfl (hb hby d8_70) rfl ?_
                      show Steps p.tables e below (T107.setTop (mkF m 71 #[.val (.ref a1), .val (.int i), .val (.int (ch (i).toNatClampNeg)), sv3] [(.int (ch (i).toNatClampNeg))])) _
                      refine XS.bipush X107.here hx rfl (hb hby d8_71) ?_
                      by_cases hc73_124 : (ch (i).toNatClampNeg) = (45 : Int32)
                      · refine XS.icmpNo X107.here hx rfl (hb hby d8_73) rfl (teq hc73_124).2 ?_
                        show Steps p.tables e below (T107.setTop (mkF m 76 #[.val (.ref a1), .val (.int i), .val (.int (ch (i).toNatClampNeg)), sv3] [])) _
                        refine XS.iconst X107.here hx rfl (hb hby d8_76) ?_
                        refine XS.goto X107.here hx rfl (pc0 := 77) (pc' := 81) rfl (hb hby d8_77) (by decide) (by decide) ?_
                        have j0 : (if (ch (i).toNatClampNeg) < (65 : Int32) then (if (ch (i).toNatClampNeg) < (97 : Int32) then (if (ch (i).toNatClampNeg) < (48 : Int32) then (if (ch (i).toNatClampNeg) = (45 : Int32) then (1 : Int32) else (0 : Int32)) else (if (57 : Int32) < (ch (i).toNatClampNeg) then (if (ch (i).toNatClampNeg) = (45 : Int32) then (1 : Int32) else (0 : Int32)) else (1 : Int32))) else (if (122 : Int32) < (ch (i).toNatClampNeg) then (if (ch (i).toNatClampNeg) < (48 : Int32) then (if (ch (i).toNatClampNeg) = (45 : Int32) then (1 : Int32) else (0 : Int32)) else (if (57 : Int32) < (ch (i).toNatClampNeg) then (if (ch (i).toNatClampNeg) = (45 : Int32) then (1 : Int32) else (0 : Int32)) else (1 : Int32))) else (1 : Int32))) else (if (90 : Int32) < (ch (i).toNatClampNeg) then (if (ch (i).toNatClampNeg) < (97 : Int32) then (if (ch (i).toNatClampNeg) < (48 : Int32) then (if (ch (i).toNatClampNeg) = (45 : Int32) then (1 : Int32) else (0 : Int32)) else (if (57 : Int32) < (ch (i).toNatClampNeg) then (if (ch (i).toNatClampNeg) = (45 : Int32) then (1 : Int32) else (0 : Int32)) else (1 : Int32))) else (if (122 : Int32) < (ch (i).toNatClampNeg) then (if (ch (i).toNatClampNeg) < (48 : Int32) then (if (ch (i).toNatClampNeg) = (45 : Int32) then (1 : Int32) else (0 : Int32)) else (if (57 : Int32) < (ch (i).toNatClampNeg) then (if (ch (i).toNatClampNeg) = (45 : Int32) then (1 : Int32) else (0 : Int32)) else (1 : Int32))) else (1 : Int32))) else (1 : Int32))) = (1 : Int32) := by rw [if_neg hc37_108, if_pos hc43_119, if_pos hc49_120, if_neg hc61_121, if_pos hc67_123, if_pos hc73_124]
                        rw [j0] at k
                        exact k
                      · refine XS.icmpYes X107.here hx rfl (pc0 := 73) (pc' := 80) rfl (hb hby d8_73) rfl (feq hc73_124).2 (by decide) (by decide) ?_
                        show Steps p.tables e below (T107.setTop (mkF m 80 #[.val (.ref a1), .val (.int i), .val (.int (ch (i).toNatClampNeg)), sv3] [])) _
                        refine XS.iconst X107.here hx rfl (hb hby d8_80) ?_
                        show Steps p.tables e below (T107.setTop (mkF m 81 #[.val (.ref a1), .val (.int i), .val (.int (ch (i).toNatClampNeg)), sv3] [(.int (0 : Int32))])) _
                        have j0 : (if (ch (i).toNatClampNeg) < (65 : Int32) then (if (ch (i).toNatClampNeg) < (97 : Int32) then (if (ch (i).toNatClampNeg) < (48 : Int32) then (if (ch (i).toNatClampNeg) = (45 : Int32) then (1 : Int32) else (0 : Int32)) else (if (57 : Int32) < (ch (i).toNatClampNeg) then (if (ch (i).toNatClampNeg) = (45 : Int32) then (1 : Int32) else (0 : Int32)) else (1 : Int32))) else (if (122 : Int32) < (ch (i).toNatClampNeg) then (if (ch (i).toNatClampNeg) < (48 : Int32) then (if (ch (i).toNatClampNeg) = (45 : Int32) then (1 : Int32) else (0 : Int32)) else (if (57 : Int32) < (ch (i).toNatClampNeg) then (if (ch (i).toNatClampNeg) = (45 : Int32) then (1 : Int32) else (0 : Int32)) else (1 : Int32))) else (1 : Int32))) else (if (90 : Int32) < (ch (i).toNatClampNeg) then (if (ch (i).toNatClampNeg) < (97 : Int32) then (if (ch (i).toNatClampNeg) < (48 : Int32) then (if (ch (i).toNatClampNeg) = (45 : Int32) then (1 : Int32) else (0 : Int32)) else (if (57 : Int32) < (ch (i).toNatClampNeg) then (if (ch (i).toNatClampNeg) = (45 : Int32) then (1 : Int32) else (0 : Int32)) else (1 : Int32))) else (if (122 : Int32) < (ch (i).toNatClampNeg) then (if (ch (i).toNatClampNeg) < (48 : Int32) then (if (ch (i).toNatClampNeg) = (45 : Int32) then (1 : Int32) else (0 : Int32)) else (if (57 : Int32) < (ch (i).toNatClampNeg) then (if (ch (i).toNatClampNeg) = (45 : Int32) then (1 : Int32) else (0 : Int32)) else (1 : Int32))) else (1 : Int32))) else (1 : Int32))) = (0 : Int32) := by rw [if_neg hc37_108, if_pos hc43_119, if_pos hc49_120, if_neg hc61_121, if_pos hc67_123, if_neg hc73_124]
                        rw [j0] at k
                        exact k
                    · refine XS.icmpYes X107.here hx rfl (pc0 := 67) (pc' := 76) rfl (hb hby d8_67) rfl (flt hc67_123).2.2.2 (by decide) (by decide) ?_
                      show Steps p.tables e below (T107.setTop (mkF m 76 #[.val (.ref a1), .val (.int i), .val (.int (ch (i).toNatClampNeg)), sv3] [])) _
                      refine XS.iconst X107.here hx rfl (hb hby d8_76) ?_
                      refine XS.goto X107.here hx rfl (pc0 := 77) (pc' := 81) rfl (hb hby d8_77) (by decide) (by decide) ?_
                      have j0 : (if (ch (i).toNatClampNeg) < (65 : Int32) then (if (ch (i).toNatClampNeg) < (97 : Int32) then (if (ch (i).toNatClampNeg) < (48 : Int32) then (if (ch (i).toNatClampNeg) = (45 : Int32) then (1 : Int32) else (0 : Int32)) else (if (57 : Int32) < (ch (i).toNatClampNeg) then (if (ch (i).toNatClampNeg) = (45 : Int32) then (1 : Int32) else (0 : Int32)) else (1 : Int32))) else (if (122 : Int32) < (ch (i).toNatClampNeg) then (if (ch (i).toNatClampNeg) < (48 : Int32) then (if (ch (i).toNatClampNeg) = (45 : Int32) then (1 : Int32) else (0 : Int32)) else (if (57 : Int32) < (ch (i).toNatClampNeg) then (if (ch (i).toNatClampNeg) = (45 : Int32) then (1 : Int32) else (0 : Int32)) else (1 : Int32))) else (1 : Int32))) else (if (90 : Int32) < (ch (i).toNatClampNeg) then (if (ch (i).toNatClampNeg) < (97 : Int32) then (if (ch (i).toNatClampNeg) < (48 : Int32) then (if (ch (i).toNatClampNeg) = (45 : Int32) then (1 : Int32) else (0 : Int32)) else (if (57 : Int32) < (ch (i).toNatClampNeg) then (if (ch (i).toNatClampNeg) = (45 : Int32) then (1 : Int32) else (0 : Int32)) else (1 : Int32))) else (if (122 : Int32) < (ch (i).toNatClampNeg) then (if (ch (i).toNatClampNeg) < (48 : Int32) then (if (ch (i).toNatClampNeg) = (45 : Int32) then (1 : Int32) else (0 : Int32)) else (if (57 : Int32) < (ch (i).toNatClampNeg) then (if (ch (i).toNatClampNeg) = (45 : Int32) then (1 : Int32) else (0 : Int32)) else (1 : Int32))) else (1 : Int32))) else (1 : Int32))) = (1 : Int32) := by rw [if_neg hc37_108, if_pos hc43_119, if_pos hc49_120, if_neg hc61_121, if_neg hc67_123]
                      rw [j0] at k
                      exact k
                · refine XS.icmpNo X107.here hx rfl (hb hby d8_49) rfl (flt hc49_120).1 ?_
                  show Steps p.tables e below (T107.setTop (mkF m 52 #[.val (.ref a1), .val (.int i), .val (.int (ch (i).toNatClampNeg)), sv3] [])) _
                  refine XS.iloadN X107.here hx rfl (hb hby d8_52) rfl ?_
                  refine XS.bipush X107.here hx rfl (hb hby d8_53) ?_
                  show Steps p.tables e below (T107.setTop (mkF m 55 #[.val (.ref a1), .val (.int i), .val (.int (ch (i).toNatClampNeg)), sv3] [(.int (122 : Int32)), (.int (ch (i).toNatClampNeg))])) _
                  by_cases hc55_125 : (122 : Int32) < (ch (i).toNatClampNeg)
                  · refine XS.icmpNo X107.here hx rfl (hb hby d8_55) rfl (tlt hc55_125).2.2.2 ?_
                    show Steps p.tables e below (T107.setTop (mkF m 58 #[.val (.ref a1), .val (.int i), .val (.int (ch (i).toNatClampNeg)), sv3] [])) _
                    refine XS.iloadN X107.here hx rfl (hb hby d8_58) rfl ?_
                    refine XS.bipush X107.here hx rfl (hb hby d8_59) ?_
                    by_cases hc61_126 : (ch (i).toNatClampNeg) < (48 : Int32)
                    · refine XS.icmpYes X107.here hx rfl (pc0 := 61) (pc' := 70) rfl (hb hby d8_61) rfl (tlt hc61_126).1 (by decide) (by decide) ?_
                      show Steps p.tables e below (T107.setTop (mkF m 70 #[.val (.ref a1), .val (.int i), .val (.int (ch (i).toNatClampNeg)), sv3] [])) _
                      refine XS.iloadN X107.here hx rfl (hb hby d8_70) rfl ?_
                      refine XS.bipush X107.here hx rfl (hb hby d8_71) ?_
                      show Steps p.tables e below (T107.setTop (mkF m 73 #[.val (.ref a1), .val (.int i), .val (.int (ch (i).toNatClampNeg)), sv3] [(.int (45 : Int32)), (.int (ch (i).toNatClampNeg))])) _
                      by_cases hc73_127 : (ch (i).toNatClampNeg) = (45 : Int32)
                      · refine XS.icmpNo X107.here hx rfl (hb hby d8_73) rfl (teq hc73_127).2 ?_
                        show Steps p.tables e below (T107.setTop (mkF m 76 #[.val (.ref a1), .val (.int i), .val (.int (ch (i).toNatClampNeg)), sv3] [])) _
                        refine XS.iconst X107.here hx rfl (hb hby d8_76) ?_
                        refine XS.goto X107.here hx rfl (pc0 := 77) (pc' := 81) rfl (hb hby d8_77) (by decide) (by decide) ?_
                        have j0 : (if (ch (i).toNatClampNeg) < (65 : Int32) then (if (ch (i).toNatClampNeg) < (97 : Int32) then (if (ch (i).toNatClampNeg) < (48 : Int32) then (if (ch (i).toNatClampNeg) = (45 : Int32) then (1 : Int32) else (0 : Int32)) else (if (57 : Int32) < (ch (i).toNatClampNeg) then (if (ch (i).toNatClampNeg) = (45 : Int32) then (1 : Int32) else (0 : Int32)) else (1 : Int32))) else (if (122 : Int32) < (ch (i).toNatClampNeg) then (if (ch (i).toNatClampNeg) < (48 : Int32) then (if (ch (i).toNatClampNeg) = (45 : Int32) then (1 : Int32) else (0 : Int32)) else (if (57 : Int32) < (ch (i).toNatClampNeg) then (if (ch (i).toNatClampNeg) = (45 : Int32) then (1 : Int32) else (0 : Int32)) else (1 : Int32))) else (1 : Int32))) else (if (90 : Int32) < (ch (i).toNatClampNeg) then (if (ch (i).toNatClampNeg) < (97 : Int32) then (if (ch (i).toNatClampNeg) < (48 : Int32) then (if (ch (i).toNatClampNeg) = (45 : Int32) then (1 : Int32) else (0 : Int32)) else (if (57 : Int32) < (ch (i).toNatClampNeg) then (if (ch (i).toNatClampNeg) = (45 : Int32) then (1 : Int32) else (0 : Int32)) else (1 : Int32))) else (if (122 : Int32) < (ch (i).toNatClampNeg) then (if (ch (i).toNatClampNeg) < (48 : Int32) then (if (ch (i).toNatClampNeg) = (45 : Int32) then (1 : Int32) else (0 : Int32)) else (if (57 : Int32) < (ch (i).toNatClampNeg) then (if (ch (i).toNatClampNeg) = (45 : Int32) then (1 : Int32) else (0 : Int32)) else (1 : Int32))) else (1 : Int32))) else (1 : Int32))) = (1 : Int32) := by rw [if_neg hc37_108, if_pos hc43_119, if_neg hc49_120, if_pos hc55_125, if_pos hc61_126, if_pos hc73_127]
                        rw [j0] at k
                        exact k
                      · refine XS.icmpYes X107.here hx rfl (pc0 := 73) (pc' := 80) rfl (hb hby d8_73) rfl (feq hc73_127).2 (by decide) (by decide) ?_
                        show Steps p.tables e below (T107.setTop (mkF m 80 #[.val (.ref a1), .val (.int i), .val (.int (ch (i).toNatClampNeg)), sv3] [])) _
                        refine XS.iconst X107.here hx rfl (hb hby d8_80) ?_
                        have j0 : (if (ch (i).toNatClampNeg) < (65 : Int32) then (if (ch (i).toNatClampNeg) < (97 : Int32) then (if (ch (i).toNatClampNeg) < (48 : Int32) then (if (ch (i).toNatClampNeg) = (45 : Int32) then (1 : Int32) else (0 : Int32)) else (if (57 : Int32) < (ch (i).toNatClampNeg) then (if (ch (i).toNatClampNeg) = (45 : Int32) then (1 : Int32) else (0 : Int32)) else (1 : Int32))) else (if (122 : Int32) < (ch (i).toNatClampNeg) then (if (ch (i).toNatClampNeg) < (48 : Int32) then (if (ch (i).toNatClampNeg) = (45 : Int32) then (1 : Int32) else (0 : Int32)) else (if (57 : Int32) < (ch (i).toNatClampNeg) then (if (ch (i).toNatClampNeg) = (45 : Int32) then (1 : Int32) else (0 : Int32)) else (1 : Int32))) else (1 : Int32))) else (if (90 : Int32) < (ch (i).toNatClampNeg) then (if (ch (i).toNatClampNeg) < (97 : Int32) then (if (ch (i).toNatClampNeg) < (48 : Int32) then (if (ch (i).toNatClampNeg) = (45 : Int32) then (1 : Int32) else (0 : Int32)) else (if (57 : Int32) < (ch (i).toNatClampNeg) then (if (ch (i).toNatClampNeg) = (45 : Int32) then (1 : Int32) else (0 : Int32)) else (1 : Int32))) else (if (122 : Int32) < (ch (i).toNatClampNeg) then (if (ch (i).toNatClampNeg) < (48 : Int32) then (if (ch (i).toNatClampNeg) = (45 : Int32) then (1 : Int32) else (0 : Int32)) else (if (57 : Int32) < (ch (i).toNatClampNeg) then (if (ch (i).toNatClampNeg) = (45 : Int32) then (1 : Int32) else (0 : Int32)) else (1 : Int32))) else (1 : Int32))) else (1 : Int32))) = (0 : Int32) := by rw [if_neg hc37_108, if_pos hc43_119, if_neg hc49_120, if_pos hc55_125, if_pos hc61_126, if_neg hc73_127]
                        rw [j0] at k
                        exact k
                    · refine XS.icmpNo X107.here hx rfl (hb hby d8_61) rfl (flt hc61_126).1 ?_
                      show Steps p.tables e below (T107.setTop (mkF m 64 #[.val (.ref a1), .val (.int i), .val (.int (ch (i).toNatClampNeg)), sv3] [])) _
                      refine XS.iloadN X107.here hx rfl (hb hby d8_64) rfl ?_
                      show Steps p.tables e below (T107.setTop (mkF m 65 #[.val (.ref a1), .val (.int i), .val (.int (ch (i).toNatClampNeg)), sv3] [(.int (ch (i).toNatClampNeg))])) _
                      refine XS.bipush X107.here hx rfl (hb hby d8_65) ?_
                      by_cases hc67_128 : (57 : Int32) < (ch (i).toNatClampNeg)
                      · refine XS.icmpNo X107.here hx rfl (hb hby d8_67) rfl (tlt hc67_128).2.2.2 ?_
                        show Steps p.tables e below (T107.setTop (mkF m 70 #[.val (.ref a1), .val (.int i), .val (.int (ch (i).toNatClampNeg)), sv3] [])) _
                        refine XS.iloadN X107.here hx rfl (hb hby d8_70) rfl ?_
                        refine XS.bipush X107.here hx rfl (hb hby d8_71) ?_
                        by_cases hc73_129 : (ch (i).toNatClampNeg) = (45 : Int32)
                        · refine XS.icmpNo X107.here hx rfl (hb hby d8_73) rfl (teq hc73_129).2 ?_
                          show Steps p.tables e below (T107.setTop (mkF m 76 #[.val (.ref a1), .val (.int i), .val (.int (ch (i).toNatClampNeg)), sv3] [])) _
                          refine XS.iconst X107.here hx rfl (hb hby d8_76) ?_
                          show Steps p.tables e below (T107.setTop (mkF m 77 #[.val (.ref a1), .val (.int i), .val (.int (ch (i).toNatClampNeg)), sv3] [(.int (1 : Int32))])) _
                          refine XS.goto X107.here hx rfl (pc0 := 77) (pc' := 81) rfl (hb hby d8_77) (by decide) (by decide) ?_
                          have j0 : (if (ch (i).toNatClampNeg) < (65 : Int32) then (if (ch (i).toNatClampNeg) < (97 : Int32) then (if (ch (i).toNatClampNeg) < (48 : Int32) then (if (ch (i).toNatClampNeg) = (45 : Int32) then (1 : Int32) else (0 : Int32)) else (if (57 : Int32) < (ch (i).toNatClampNeg) then (if (ch (i).toNatClampNeg) = (45 : Int32) then (1 : Int32) else (0 : Int32)) else (1 : Int32))) else (if (122 : Int32) < (ch (i).toNatClampNeg) then (if (ch (i).toNatClampNeg) < (48 : Int32) then (if (ch (i).toNatClampNeg) = (45 : Int32) then (1 : Int32) else (0 : Int32)) else (if (57 : Int32) < (ch (i).toNatClampNeg) then (if (ch (i).toNatClampNeg) = (45 : Int32) then (1 : Int32) else (0 : Int32)) else (1 : Int32))) else (1 : Int32))) else (if (90 : Int32) < (ch (i).toNatClampNeg) then (if (ch (i).toNatClampNeg) < (97 : Int32) then (if (ch (i).toNatClampNeg) < (48 : Int32) then (if (ch (i).toNatClampNeg) = (45 : Int32) then (1 : Int32) else (0 : Int32)) else (if (57 : Int32) < (ch (i).toNatClampNeg) then (if (ch (i).toNatClampNeg) = (45 : Int32) then (1 : Int32) else (0 : Int32)) else (1 : Int32))) else (if (122 : Int32) < (ch (i).toNatClampNeg) then (if (ch (i).toNatClampNeg) < (48 : Int32) then (if (ch (i).toNatClampNeg) = (45 : Int32) then (1 : Int32) else (0 : Int32)) else (if (57 : Int32) < (ch (i).toNatClampNeg) then (if (ch (i).toNatClampNeg) = (45 : Int32) then (1 : Int32) else (0 : Int32)) else (1 : Int32))) else (1 : Int32))) else (1 : Int32))) = (1 : Int32) := by rw [if_neg hc37_108, if_pos hc43_119, if_neg hc49_120, if_pos hc55_125, if_neg hc61_126, if_pos hc67_128, if_pos hc73_129]
                          rw [j0] at k
                          exact k
                        · refine XS.icmpYes X107.here hx rfl (pc0 := 73) (pc' := 80) rfl (hb hby d8_73) rfl (feq hc73_129).2 (by decide) (by decide) ?_
                          show Steps p.tables e below (T107.setTop (mkF m 80 #[.val (.ref a1), .val (.int i), .val (.int (ch (i).toNatClampNeg)), sv3] [])) _
                          refine XS.iconst X107.here hx rfl (hb hby d8_80) ?_
                          have j0 : (if (ch (i).toNatClampNeg) < (65 : Int32) then (if (ch (i).toNatClampNeg) < (97 : Int32) then (if (ch (i).toNatClampNeg) < (48 : Int32) then (if (ch (i).toNatClampNeg) = (45 : Int32) then (1 : Int32) else (0 : Int32)) else (if (57 : Int32) < (ch (i).toNatClampNeg) then (if (ch (i).toNatClampNeg) = (45 : Int32) then (1 : Int32) else (0 : Int32)) else (1 : Int32))) else (if (122 : Int32) < (ch (i).toNatClampNeg) then (if (ch (i).toNatClampNeg) < (48 : Int32) then (if (ch (i).toNatClampNeg) = (45 : Int32) then (1 : Int32) else (0 : Int32)) else (if (57 : Int32) < (ch (i).toNatClampNeg) then (if (ch (i).toNatClampNeg) = (45 : Int32) then (1 : Int32) else (0 : Int32)) else (1 : Int32))) else (1 : Int32))) else (if (90 : Int32) < (ch (i).toNatClampNeg) then (if (ch (i).toNatClampNeg) < (97 : Int32) then (if (ch (i).toNatClampNeg) < (48 : Int32) then (if (ch (i).toNatClampNeg) = (45 : Int32) then (1 : Int32) else (0 : Int32)) else (if (57 : Int32) < (ch (i).toNatClampNeg) then (if (ch (i).toNatClampNeg) = (45 : Int32) then (1 : Int32) else (0 : Int32)) else (1 : Int32))) else (if (122 : Int32) < (ch (i).toNatClampNeg) then (if (ch (i).toNatClampNeg) < (48 : Int32) then (if (ch (i).toNatClampNeg) = (45 : Int32) then (1 : Int32) else (0 : Int32)) else (if (57 : Int32) < (ch (i).toNatClampNeg) then (if (ch (i).toNatClampNeg) = (45 : Int32) then (1 : Int32) else (0 : Int32)) else (1 : Int32))) else (1 : Int32))) else (1 : Int32))) = (0 : Int32) := by rw [if_neg hc37_108, if_pos hc43_119, if_neg hc49_120, if_pos hc55_125, if_neg hc61_126, if_pos hc67_128, if_neg hc73_129]
                          rw [j0] at k
                          exact k
                      · refine XS.icmpYes X107.here hx rfl (pc0 := 67) (pc' := 76) rfl (hb hby d8_67) rfl (flt hc67_128).2.2.2 (by decide) (by decide) ?_
                        show Steps p.tables e below (T107.setTop (mkF m 76 #[.val (.ref a1), .val (.int i), .val (.int (ch (i).toNatClampNeg)), sv3] [])) _
                        refine XS.iconst X107.here hx rfl (hb hby d8_76) ?_
                        refine XS.goto X107.here hx rfl (pc0 := 77) (pc' := 81) rfl (hb hby d8_77) (by decide) (by decide) ?_
                        show Steps p.tables e below (T107.setTop (mkF m 81 #[.val (.ref a1), .val (.int i), .val (.int (ch (i).toNatClampNeg)), sv3] [(.int (1 : Int32))])) _
                        have j0 : (if (ch (i).toNatClampNeg) < (65 : Int32) then (if (ch (i).toNatClampNeg) < (97 : Int32) then (if (ch (i).toNatClampNeg) < (48 : Int32) then (if (ch (i).toNatClampNeg) = (45 : Int32) then (1 : Int32) else (0 : Int32)) else (if (57 : Int32) < (ch (i).toNatClampNeg) then (if (ch (i).toNatClampNeg) = (45 : Int32) then (1 : Int32) else (0 : Int32)) else (1 : Int32))) else (if (122 : Int32) < (ch (i).toNatClampNeg) then (if (ch (i).toNatClampNeg) < (48 : Int32) then (if (ch (i).toNatClampNeg) = (45 : Int32) then (1 : Int32) else (0 : Int32)) else (if (57 : Int32) < (ch (i).toNatClampNeg) then (if (ch (i).toNatClampNeg) = (45 : Int32) then (1 : Int32) else (0 : Int32)) else (1 : Int32))) else (1 : Int32))) else (if (90 : Int32) < (ch (i).toNatClampNeg) then (if (ch (i).toNatClampNeg) < (97 : Int32) then (if (ch (i).toNatClampNeg) < (48 : Int32) then (if (ch (i).toNatClampNeg) = (45 : Int32) then (1 : Int32) else (0 : Int32)) else (if (57 : Int32) < (ch (i).toNatClampNeg) then (if (ch (i).toNatClampNeg) = (45 : Int32) then (1 : Int32) else (0 : Int32)) else (1 : Int32))) else (if (122 : Int32) < (ch (i).toNatClampNeg) then (if (ch (i).toNatClampNeg) < (48 : Int32) then (if (ch (i).toNatClampNeg) = (45 : Int32) then (1 : Int32) else (0 : Int32)) else (if (57 : Int32) < (ch (i).toNatClampNeg) then (if (ch (i).toNatClampNeg) = (45 : Int32) then (1 : Int32) else (0 : Int32)) else (1 : Int32))) else (1 : Int32))) else (1 : Int32))) = (1 : Int32) := by rw [if_neg hc37_108, if_pos hc43_119, if_neg hc49_120, if_pos hc55_125, if_neg hc61_126, if_neg hc67_128]
                        rw [j0] at k
                        exact k
                  · refine XS.icmpYes X107.here hx rfl (pc0 := 55) (pc' := 76) rfl (hb hby d8_55) rfl (flt hc55_125).2.2.2 (by decide) (by decide) ?_
                    show Steps p.tables e below (T107.setTop (mkF m 76 #[.val (.ref a1), .val (.int i), .val (.int (ch (i).toNatClampNeg)), sv3] [])) _
                    refine XS.iconst X107.here hx rfl (hb hby d8_76) ?_
                    refine XS.goto X107.here hx rfl (pc0 := 77) (pc' := 81) rfl (hb hby d8_77) (by decide) (by decide) ?_
                    have j0 : (if (ch (i).toNatClampNeg) < (65 : Int32) then (if (ch (i).toNatClampNeg) < (97 : Int32) then (if (ch (i).toNatClampNeg) < (48 : Int32) then (if (ch (i).toNatClampNeg) = (45 : Int32) then (1 : Int32) else (0 : Int32)) else (if (57 : Int32) < (ch (i).toNatClampNeg) then (if (ch (i).toNatClampNeg) = (45 : Int32) then (1 : Int32) else (0 : Int32)) else (1 : Int32))) else (if (122 : Int32) < (ch (i).toNatClampNeg) then (if (ch (i).toNatClampNeg) < (48 : Int32) then (if (ch (i).toNatClampNeg) = (45 : Int32) then (1 : Int32) else (0 : Int32)) else (if (57 : Int32) < (ch (i).toNatClampNeg) then (if (ch (i).toNatClampNeg) = (45 : Int32) then (1 : Int32) else (0 : Int32)) else (1 : Int32))) else (1 : Int32))) else (if (90 : Int32) < (ch (i).toNatClampNeg) then (if (ch (i).toNatClampNeg) < (97 : Int32) then (if (ch (i).toNatClampNeg) < (48 : Int32) then (if (ch (i).toNatClampNeg) = (45 : Int32) then (1 : Int32) else (0 : Int32)) else (if (57 : Int32) < (ch (i).toNatClampNeg) then (if (ch (i).toNatClampNeg) = (45 : Int32) then (1 : Int32) else (0 : Int32)) else (1 : Int32))) else (if (122 : Int32) < (ch (i).toNatClampNeg) then (if (ch (i).toNatClampNeg) < (48 : Int32) then (if (ch (i).toNatClampNeg) = (45 : Int32) then (1 : Int32) else (0 : Int32)) else (if (57 : Int32) < (ch (i).toNatClampNeg) then (if (ch (i).toNatClampNeg) = (45 : Int32) then (1 : Int32) else (0 : Int32)) else (1 : Int32))) else (1 : Int32))) else (1 : Int32))) = (1 : Int32) := by rw [if_neg hc37_108, if_pos hc43_119, if_neg hc49_120, if_neg hc55_125]
                    rw [j0] at k
                    exact k
              · refine XS.icmpYes X107.here hx rfl (pc0 := 43) (pc' := 76) rfl (hb hby d8_43) rfl (flt hc43_119).2.2.2 (by decide) (by decide) ?_
                show Steps p.tables e below (T107.setTop (mkF m 76 #[.val (.ref a1), .val (.int i), .val (.int (ch (i).toNatClampNeg)), sv3] [])) _
                refine XS.iconst X107.here hx rfl (hb hby d8_76) ?_
                refine XS.goto X107.here hx rfl (pc0 := 77) (pc' := 81) rfl (hb hby d8_77) (by decide) (by decide) ?_
                show Steps p.tables e below (T107.setTop (mkF m 81 #[.val (.ref a1), .val (.int i), .val (.int (ch (i).toNatClampNeg)), sv3] [(.int (1 : Int32))])) _
                have j0 : (if (ch (i).toNatClampNeg) < (65 : Int32) then (if (ch (i).toNatClampNeg) < (97 : Int32) then (if (ch (i).toNatClampNeg) < (48 : Int32) then (if (ch (i).toNatClampNeg) = (45 : Int32) then (1 : Int32) else (0 : Int32)) else (if (57 : Int32) < (ch (i).toNatClampNeg) then (if (ch (i).toNatClampNeg) = (45 : Int32) then (1 : Int32) else (0 : Int32)) else (1 : Int32))) else (if (122 : Int32) < (ch (i).toNatClampNeg) then (if (ch (i).toNatClampNeg) < (48 : Int32) then (if (ch (i).toNatClampNeg) = (45 : Int32) then (1 : Int32) else (0 : Int32)) else (if (57 : Int32) < (ch (i).toNatClampNeg) then (if (ch (i).toNatClampNeg) = (45 : Int32) then (1 : Int32) else (0 : Int32)) else (1 : Int32))) else (1 : Int32))) else (if (90 : Int32) < (ch (i).toNatClampNeg) then (if (ch (i).toNatClampNeg) < (97 : Int32) then (if (ch (i).toNatClampNeg) < (48 : Int32) then (if (ch (i).toNatClampNeg) = (45 : Int32) then (1 : Int32) else (0 : Int32)) else (if (57 : Int32) < (ch (i).toNatClampNeg) then (if (ch (i).toNatClampNeg) = (45 : Int32) then (1 : Int32) else (0 : Int32)) else (1 : Int32))) else (if (122 : Int32) < (ch (i).toNatClampNeg) then (if (ch (i).toNatClampNeg) < (48 : Int32) then (if (ch (i).toNatClampNeg) = (45 : Int32) then (1 : Int32) else (0 : Int32)) else (if (57 : Int32) < (ch (i).toNatClampNeg) then (if (ch (i).toNatClampNeg) = (45 : Int32) then (1 : Int32) else (0 : Int32)) else (1 : Int32))) else (1 : Int32))) else (1 : Int32))) = (1 : Int32) := by rw [if_neg hc37_108, if_neg hc43_119]
                rw [j0] at k
                exact k
          rw [show (if (ch (i).toNatClampNeg) < (65 : Int32) then (if (ch (i).toNatClampNeg) < (97 : Int32) then (if (ch (i).toNatClampNeg) < (48 : Int32) then (if (ch (i).toNatClampNeg) = (45 : Int32) then (1 : Int32) else (0 : Int32)) else (if (57 : Int32) < (ch (i).toNatClampNeg) then (if (ch (i).toNatClampNeg) = (45 : Int32) then (1 : Int32) else (0 : Int32)) else (1 : Int32))) else (if (122 : Int32) < (ch (i).toNatClampNeg) then (if (ch (i).toNatClampNeg) < (48 : Int32) then (if (ch (i).toNatClampNeg) = (45 : Int32) then (1 : Int32) else (0 : Int32)) else (if (57 : Int32) < (ch (i).toNatClampNeg) then (if (ch (i).toNatClampNeg) = (45 : Int32) then (1 : Int32) else (0 : Int32)) else (1 : Int32))) else (1 : Int32))) else (if (90 : Int32) < (ch (i).toNatClampNeg) then (if (ch (i).toNatClampNeg) < (97 : Int32) then (if (ch (i).toNatClampNeg) < (48 : Int32) then (if (ch (i).toNatClampNeg) = (45 : Int32) then (1 : Int32) else (0 : Int32)) else (if (57 : Int32) < (ch (i).toNatClampNeg) then (if (ch (i).toNatClampNeg) = (45 : Int32) then (1 : Int32) else (0 : Int32)) else (1 : Int32))) else (if (122 : Int32) < (ch (i).toNatClampNeg) then (if (ch (i).toNatClampNeg) < (48 : Int32) then (if (ch (i).toNatClampNeg) = (45 : Int32) then (1 : Int32) else (0 : Int32)) else (if (57 : Int32) < (ch (i).toNatClampNeg) then (if (ch (i).toNatClampNeg) = (45 : Int32) then (1 : Int32) else (0 : Int32)) else (1 : Int32))) else (1 : Int32))) else (1 : Int32))) = own_okc (ch (i).toNatClampNeg) from own_okE (ch (i).toNatClampNeg)]
          show EndsQ _ _ _ _ _ _ _ (T107.setTop (mkF m 81 #[.val (.ref a1), .val (.int i), .val (.int (ch (i).toNatClampNeg)), sv3] [(.int (own_okc (ch (i).toNatClampNeg)))]))
          refine EndsQ.go (b := T107.setTop (mkF m 83 #[.val (.ref a1), .val (.int i), .val (.int (ch (i).toNatClampNeg)), .val (.int (own_okc (ch (i).toNatClampNeg)))] [(.int (own_okc (ch (i).toNatClampNeg)))])) (fun t k => ?_) ?_
          · show Steps p.tables e below (T107.setTop (mkF m 81 #[.val (.ref a1), .val (.int i), .val (.int (ch (i).toNatClampNeg)), sv3] [(.int (own_okc (ch (i).toNatClampNeg)))])) _
            refine XS.istoreNS X107.here hx rfl (hb hby d8_81) rfl rfl hs3 ?_
            refine XS.iloadN X107.here hx rfl (hb hby d8_82) rfl ?_
            exact k
          by_cases hc83_130 : (own_okc (ch (i).toNatClampNeg)) = (0 : Int32)
          · refine EndsQ.go (b := T107.setTop (mkF m 86 #[.val (.ref a1), .val (.int i), .val (.int (ch (i).toNatClampNeg)), .val (.int (own_okc (ch (i).toNatClampNeg)))] [])) (fun t k => ?_) ?_
            · show Steps p.tables e below (T107.setTop (mkF m 83 #[.val (.ref a1), .val (.int i), .val (.int (ch (i).toNatClampNeg)), .val (.int (own_okc (ch (i).toNatClampNeg)))] [(.int (own_okc (ch (i).toNatClampNeg)))])) _
              refine XS.ifNo X107.here hx rfl (hb hby d8_83) rfl ((if0 _ _).trans (teq hc83_130).2) ?_
              show Steps p.tables e below (T107.setTop (mkF m 86 #[.val (.ref a1), .val (.int i), .val (.int (ch (i).toNatClampNeg)), .val (.int (own_okc (ch (i).toNatClampNeg)))] [])) _
              exact k
            refine EndsQ.go (b := T107.setTop (mkF m 87 #[.val (.ref a1), .val (.int i), .val (.int (ch (i).toNatClampNeg)), .val (.int (own_okc (ch (i).toNatClampNeg)))] [(.int (0 : Int32))])) (fun t k => ?_) ?_
            · show Steps p.tables e below (T107.setTop (mkF m 86 #[.val (.ref a1), .val (.int i), .val (.int (ch (i).toNatClampNeg)), .val (.int (own_okc (ch (i).toNatClampNeg)))] [])) _
              refine XS.iconst X107.here hx rfl (hb hby d8_86) ?_
              exact k
            refine EndsQ.retN X107 hx Bd.notSynchronized (t := .boolean) Bd.returns (by simp) (hb hby d8_87) (by decide) (by decide) ?_
            show Q8 Z a1 cs fv n ch h0 n0 (some (.int (nar .boolean (0 : Int32)))) T107.heap _
            rw [eq107]
            exact ⟨congrArg (fun z => some (Value.int z)) (own_v0c n i ch hc4_102 hc13_104 hi (own_fuL i n fu hfu) hc83_130), N107, rfl⟩
          · refine EndsQ.go (b := T107.setTop (mkF m 88 #[.val (.ref a1), .val (.int i), .val (.int (ch (i).toNatClampNeg)), .val (.int (own_okc (ch (i).toNatClampNeg)))] [])) (fun t k => ?_) ?_
            · show Steps p.tables e below (T107.setTop (mkF m 83 #[.val (.ref a1), .val (.int i), .val (.int (ch (i).toNatClampNeg)), .val (.int (own_okc (ch (i).toNatClampNeg)))] [(.int (own_okc (ch (i).toNatClampNeg)))])) _
              refine XS.ifYes X107.here hx rfl (pc0 := 83) (pc' := 88) rfl (hb hby d8_83) rfl ((if0 _ _).trans (feq hc83_130).2) (by decide) (by decide) ?_
              show Steps p.tables e below (T107.setTop (mkF m 88 #[.val (.ref a1), .val (.int i), .val (.int (ch (i).toNatClampNeg)), .val (.int (own_okc (ch (i).toNatClampNeg)))] [])) _
              exact k
            refine EndsQ.go (b := T107.setTop (mkF m 20 #[.val (.ref a1), .val (.int (i + Int32.ofInt 1)), .val (.int (ch (i).toNatClampNeg)), .val (.int (own_okc (ch (i).toNatClampNeg)))] [])) (fun t k => ?_) ?_
            · show Steps p.tables e below (T107.setTop (mkF m 88 #[.val (.ref a1), .val (.int i), .val (.int (ch (i).toNatClampNeg)), .val (.int (own_okc (ch (i).toNatClampNeg)))] [])) _
              refine XS.iinc X107.here hx rfl (hb hby d8_88) rfl (l' := #[.val (.ref a1), .val (.int (i + Int32.ofInt 1)), .val (.int (ch (i).toNatClampNeg)), .val (.int (own_okc (ch (i).toNatClampNeg)))]) rfl ?_
              show Steps p.tables e below (T107.setTop (mkF m 91 #[.val (.ref a1), .val (.int (i + Int32.ofInt 1)), .val (.int (ch (i).toNatClampNeg)), .val (.int (own_okc (ch (i).toNatClampNeg)))] [])) _
              refine XS.goto X107.here hx rfl (pc0 := 91) (pc' := 20) rfl (hb hby d8_91) (by decide) (by decide) ?_
              exact k
            exact ih_loop _ _ _ _ _ _ X107 eq107 N107 rfl (own_sucn i n hi (own_fuL i n fu hfu)) (own_fuS i n fu (own_fuL i n fu hfu) hfu) (own_stepV ch i n hi (own_fuL i n fu hfu) hc83_130 hf) (Or.inr ⟨_, rfl, rfl⟩) (Or.inr ⟨_, rfl, rfl⟩)
      exact loop n.toInt.toNat (0 : Int32) _ _ _ _ _ X103 eq103 N103 rfl (by decide) (own_fu0 n hn0) own_none1 (Or.inl rfl) (Or.inl rfl)
  · refine EndsQ.go (b := T101.setTop (mkF m 16 #[.val (.ref a1), .unset, .unset, .unset] [])) (fun t k => ?_) ?_
    · show Steps p.tables e below (T101.setTop (mkF m 4 #[.val (.ref a1), .unset, .unset, .unset] [(.int (own_isl n))])) _
      refine XS.ifYes X101.here hx rfl (pc0 := 4) (pc' := 16) rfl (hb hby d8_4) rfl ((if0 _ _).trans (feq hc4_102).2) (by decide) (by decide) ?_
      show Steps p.tables e below (T101.setTop (mkF m 16 #[.val (.ref a1), .unset, .unset, .unset] [])) _
      exact k
    refine EndsQ.go (b := T101.setTop (mkF m 17 #[.val (.ref a1), .unset, .unset, .unset] [(.int (0 : Int32))])) (fun t k => ?_) ?_
    · show Steps p.tables e below (T101.setTop (mkF m 16 #[.val (.ref a1), .unset, .unset, .unset] [])) _
      refine XS.iconst X101.here hx rfl (hb hby d8_16) ?_
      exact k
    refine EndsQ.retN X101 hx Bd.notSynchronized (t := .boolean) Bd.returns (by simp) (hb hby d8_17) (by decide) (by decide) ?_
    show Q8 Z a1 cs fv n ch h0 n0 (some (.int (nar .boolean (0 : Int32)))) T101.heap _
    rw [eq101]
    exact ⟨congrArg (fun z => some (Value.int z)) (own_v0a n ch hc4_102), N101, rfl⟩
theorem ef_0 (m : MethodId) (x0 : Int32) (x1 : Int32) (x2 : Int32) (x3 : Int32) : entryFrame m #[(.int x0), (.int x1), (.int x2), (.int x3)] maxLocals = mkF m 0 #[.val (.int x0), .val (.int x1), .val (.int x2), .val (.int x3), .unset, .unset, .unset, .unset, .unset, .unset, .unset] [] := by first | (simp [entryFrame, mkF, argsToLocals, Value.category, maxLocals]; done) | rfl
def Q0 (Z : State) (p1 : Int32) (p2 : Int32) (p3 : Int32) (p4 : Int32) (cs : Int32) (fv : Value) (h0 : Heap) (n0 : Nat) (v : Option Value) (h : Heap) (L : List Loc) : Prop := v = some (.int 1) ∧ Fr n0 L
set_option maxRecDepth 65536 in
set_option maxHeartbeats 40000000 in
theorem rm0 (l : Launch) (Z : State) (a0 : Array Value) (hw : ∀ d ∈ tables_1, d.before a0 Z = true) (ws : List Jvm.Cond) (p1 : Int32) (p2 : Int32) (p3 : Int32) (p4 : Int32) (cs : Int32) (fv : Value) (h0 : Heap) (n0 : Nat) (Z0 : n0 ≤ h0.size) (ST : own_St Z h0 cs fv) :
    MetFree l x (head1 (Jvm.Cond.code x code maxLocals ret :: ws) room_1) (fun a U => a = #[(.int p1), (.int p2), (.int p3), (.int p4)] ∧ Z.Warmed39 U.vm ∧ U.heap = h0 ∧ CHv Z [("java/lang/String", 7)] U.vm h0) (fun _ _ _ _ _ => True) (fun _ U o U' => ∃ v L, o = .returned v ∧ Q0 Z p1 p2 p3 p4 cs fv h0 n0 v U'.heap L ∧ ReturnedEndW U o U' L 24 1408) := by
  refine MetFree.of_bodySF (plainFor_of_name pn_0) hisR ?_
  intro p e s m args below meth c s₁ Bd hml0 hP hK
  obtain ⟨rfl, hZ, hh, HC⟩ := hP
  have hx := Bd.exec
  have hby := Bd.bytes
  have hml : c.maxLocals = 11 := hml0
  have hown : s.vm.findClass "com/example/lossfall/lossfall/model/CertificateClassIsValidNamePinLaw" = some m.cls := findClass_of_methodNamed Bd.named
  have hnm := (name_of_methodNamed Bd.named Bd.method).1
  have X0 : Stand p l e room_1 (s.setVm s.vm) m #[(.int p1), (.int p2), (.int p3), (.int p4)] below meth c s₁ [] 0 0 := Stand.of_body Bd
  have e0 : s₁.heap = h0 := by rw [← hh, Bd.state]; rfl
  have N0 := Fr.nil n0
  show EndsW p.tables e below s (fun v h L => Q0 Z p1 p2 p3 p4 cs fv h0 n0 v h L) 24 1408 _
  refine EndsW.go (b := s₁.setTop (mkF m 0 #[.val (.int p1), .val (.int p2), .val (.int p3), .val (.int p4), .unset, .unset, .unset, .unset, .unset, .unset, .unset] [])) (fun t k => castTop (ef_0 m p1 p2 p3 p4) k) ?_
  have hS0 : s.Since s.vm s.heap.size := (State.WarmedH.refl s).since _
  have hk0 : s.heap.size ≤ h0.size := Nat.le_of_eq (congrArg Array.size hh)
  have hZ : Z.Warmed39 (s.setVm s.vm).vm := hZ
  have hown : (s.setVm s.vm).vm.findClass "com/example/lossfall/lossfall/model/CertificateClassIsValidNamePinLaw" = some m.cls := hown
  obtain ⟨S_C, hcs, S_F, hfv, S_A, S_H, S_L⟩ := ST
  have hEL : EW Z a0 [("java/lang/String", 7)] := EW.cons (own_w hw 76 rfl) (by simp) EW.nil
  refine EndsW.go (b := s₁.setTop (mkF m 7 #[.val (.int p1), .val (.int p2), .val (.int p3), .val (.int p4), .val (.int ((p1 &&& (65535 : Int32)).toUInt32.toUInt16.toUInt32.toInt32)), .unset, .unset, .unset, .unset, .unset, .unset] [])) (fun t k => ?_) ?_
  · show Steps p.tables e below (s₁.setTop (mkF m 0 #[.val (.int p1), .val (.int p2), .val (.int p3), .val (.int p4), .unset, .unset, .unset, .unset, .unset, .unset, .unset] [])) _
    refine XS.iloadN X0.here hx rfl (hb hby at_0) rfl ?_
    refine X0.ldcInt hx hown (mvT hZ (own_w hw 0 rfl)) (g := (mkF m 1 #[.val (.int p1), .val (.int p2), .val (.int p3), .val (.int p4), .unset, .unset, .unset, .unset, .unset, .unset, .unset] [(.int p1)])) rfl (hb hby at_1) _ ?_
    refine XS.iand X0.here hx rfl (hb hby at_3) rfl ?_
    refine XS.i2c X0.here hx rfl (hb hby at_4) rfl ?_
    show Steps p.tables e below (s₁.setTop (mkF m 5 #[.val (.int p1), .val (.int p2), .val (.int p3), .val (.int p4), .unset, .unset, .unset, .unset, .unset, .unset, .unset] [(.int ((p1 &&& (65535 : Int32)).toUInt32.toUInt16.toUInt32.toInt32))])) _
    refine XS.istore X0.here hx rfl (hb hby at_5) rfl (l' := #[.val (.int p1), .val (.int p2), .val (.int p3), .val (.int p4), .val (.int ((p1 &&& (65535 : Int32)).toUInt32.toUInt16.toUInt32.toInt32)), .unset, .unset, .unset, .unset, .unset, .unset]) rfl ?_
    exact k
  generalize hv_c0 : ((p1 &&& (65535 : Int32)).toUInt32.toUInt16.toUInt32.toInt32) = c0
  have hc0 : own_r16 c0 := by rw [← hv_c0]; exact (c_i2c _).2
  show EndsW _ _ _ _ _ _ _ (s₁.setTop (mkF m 7 #[.val (.int p1), .val (.int p2), .val (.int p3), .val (.int p4), .val (.int c0), .unset, .unset, .unset, .unset, .unset, .unset] []))
  refine EndsW.go (b := s₁.setTop (mkF m 14 #[.val (.int p1), .val (.int p2), .val (.int p3), .val (.int p4), .val (.int c0), .val (.int ((p2 &&& (65535 : Int32)).toUInt32.toUInt16.toUInt32.toInt32)), .unset, .unset, .unset, .unset, .unset] [])) (fun t k => ?_) ?_
  · show Steps p.tables e below (s₁.setTop (mkF m 7 #[.val (.int p1), .val (.int p2), .val (.int p3), .val (.int p4), .val (.int c0), .unset, .unset, .unset, .unset, .unset, .unset] [])) _
    refine XS.iloadN X0.here hx rfl (hb hby at_7) rfl ?_
    refine X0.ldcInt hx hown (mvT hZ (own_w hw 0 rfl)) (g := (mkF m 8 #[.val (.int p1), .val (.int p2), .val (.int p3), .val (.int p4), .val (.int c0), .unset, .unset, .unset, .unset, .unset, .unset] [(.int p2)])) rfl (hb hby at_8) _ ?_
    refine XS.iand X0.here hx rfl (hb hby at_10) rfl ?_
    show Steps p.tables e below (s₁.setTop (mkF m 11 #[.val (.int p1), .val (.int p2), .val (.int p3), .val (.int p4), .val (.int c0), .unset, .unset, .unset, .unset, .unset, .unset] [(.int (p2 &&& (65535 : Int32)))])) _
    refine XS.i2c X0.here hx rfl (hb hby at_11) rfl ?_
    refine XS.istore X0.here hx rfl (hb hby at_12) rfl (l' := #[.val (.int p1), .val (.int p2), .val (.int p3), .val (.int p4), .val (.int c0), .val (.int ((p2 &&& (65535 : Int32)).toUInt32.toUInt16.toUInt32.toInt32)), .unset, .unset, .unset, .unset, .unset]) rfl ?_
    exact k
  generalize hv_c1 : ((p2 &&& (65535 : Int32)).toUInt32.toUInt16.toUInt32.toInt32) = c1
  have hc1 : own_r16 c1 := by rw [← hv_c1]; exact (c_i2c _).2
  show EndsW _ _ _ _ _ _ _ (s₁.setTop (mkF m 14 #[.val (.int p1), .val (.int p2), .val (.int p3), .val (.int p4), .val (.int c0), .val (.int c1), .unset, .unset, .unset, .unset, .unset] []))
  refine EndsW.go (b := s₁.setTop (mkF m 21 #[.val (.int p1), .val (.int p2), .val (.int p3), .val (.int p4), .val (.int c0), .val (.int c1), .val (.int ((p3 &&& (65535 : Int32)).toUInt32.toUInt16.toUInt32.toInt32)), .unset, .unset, .unset, .unset] [])) (fun t k => ?_) ?_
  · show Steps p.tables e below (s₁.setTop (mkF m 14 #[.val (.int p1), .val (.int p2), .val (.int p3), .val (.int p4), .val (.int c0), .val (.int c1), .unset, .unset, .unset, .unset, .unset] [])) _
    refine XS.iloadN X0.here hx rfl (hb hby at_14) rfl ?_
    refine X0.ldcInt hx hown (mvT hZ (own_w hw 0 rfl)) (g := (mkF m 15 #[.val (.int p1), .val (.int p2), .val (.int p3), .val (.int p4), .val (.int c0), .val (.int c1), .unset, .unset, .unset, .unset, .unset] [(.int p3)])) rfl (hb hby at_15) _ ?_
    show Steps p.tables e below (s₁.setTop (mkF m 17 #[.val (.int p1), .val (.int p2), .val (.int p3), .val (.int p4), .val (.int c0), .val (.int c1), .unset, .unset, .unset, .unset, .unset] [(.int (65535 : Int32)), (.int p3)])) _
    refine XS.iand X0.here hx rfl (hb hby at_17) rfl ?_
    refine XS.i2c X0.here hx rfl (hb hby at_18) rfl ?_
    refine XS.istore X0.here hx rfl (hb hby at_19) rfl (l' := #[.val (.int p1), .val (.int p2), .val (.int p3), .val (.int p4), .val (.int c0), .val (.int c1), .val (.int ((p3 &&& (65535 : Int32)).toUInt32.toUInt16.toUInt32.toInt32)), .unset, .unset, .unset, .unset]) rfl ?_
    exact k
  generalize hv_c2 : ((p3 &&& (65535 : Int32)).toUInt32.toUInt16.toUInt32.toInt32) = c2
  have hc2 : own_r16 c2 := by rw [← hv_c2]; exact (c_i2c _).2
  show EndsW _ _ _ _ _ _ _ (s₁.setTop (mkF m 21 #[.val (.int p1), .val (.int p2), .val (.int p3), .val (.int p4), .val (.int c0), .val (.int c1), .val (.int c2), .unset, .unset, .unset, .unset] []))
  refine EndsW.go (b := s₁.setTop (mkF m 29 #[.val (.int p1), .val (.int p2), .val (.int p3), .val (.int p4), .val (.int c0), .val (.int c1), .val (.int c2), .val (.int (p4 &&& (7 : Int32))), .unset, .unset, .unset] [(.int (p4 &&& (7 : Int32)))])) (fun t k => ?_) ?_
  · show Steps p.tables e below (s₁.setTop (mkF m 21 #[.val (.int p1), .val (.int p2), .val (.int p3), .val (.int p4), .val (.int c0), .val (.int c1), .val (.int c2), .unset, .unset, .unset, .unset] [])) _
    refine XS.iloadN X0.here hx rfl (hb hby at_21) rfl ?_
    show Steps p.tables e below (s₁.setTop (mkF m 22 #[.val (.int p1), .val (.int p2), .val (.int p3), .val (.int p4), .val (.int c0), .val (.int c1), .val (.int c2), .unset, .unset, .unset, .unset] [(.int p4)])) _
    refine XS.bipush X0.here hx rfl (hb hby at_22) ?_
    refine XS.iand X0.here hx rfl (hb hby at_24) rfl ?_
    refine XS.istore X0.here hx rfl (hb hby at_25) rfl (l' := #[.val (.int p1), .val (.int p2), .val (.int p3), .val (.int p4), .val (.int c0), .val (.int c1), .val (.int c2), .val (.int (p4 &&& (7 : Int32))), .unset, .unset, .unset]) rfl ?_
    refine XS.iload X0.here hx rfl (hb hby at_27) rfl ?_
    show Steps p.tables e below (s₁.setTop (mkF m 29 #[.val (.int p1), .val (.int p2), .val (.int p3), .val (.int p4), .val (.int c0), .val (.int c1), .val (.int c2), .val (.int (p4 &&& (7 : Int32))), .unset, .unset, .unset] [(.int (p4 &&& (7 : Int32)))])) _
    exact k
  by_cases hc29_101 : (p4 &&& (7 : Int32)) = (0 : Int32)
  · refine EndsW.go (b := s₁.setTop (mkF m 32 #[.val (.int p1), .val (.int p2), .val (.int p3), .val (.int p4), .val (.int c0), .val (.int c1), .val (.int c2), .val (.int (p4 &&& (7 : Int32))), .unset, .unset, .unset] [])) (fun t k => ?_) ?_
    · show Steps p.tables e below (s₁.setTop (mkF m 29 #[.val (.int p1), .val (.int p2), .val (.int p3), .val (.int p4), .val (.int c0), .val (.int c1), .val (.int c2), .val (.int (p4 &&& (7 : Int32))), .unset, .unset, .unset] [(.int (p4 &&& (7 : Int32)))])) _
      refine XS.ifNo X0.here hx rfl (hb hby at_29) rfl ((if0 _ _).trans (teq hc29_101).2) ?_
      show Steps p.tables e below (s₁.setTop (mkF m 32 #[.val (.int p1), .val (.int p2), .val (.int p3), .val (.int p4), .val (.int c0), .val (.int c1), .val (.int c2), .val (.int (p4 &&& (7 : Int32))), .unset, .unset, .unset] [])) _
      exact k
    refine EndsW.go (b := s₁.setTop (mkF m 33 #[.val (.int p1), .val (.int p2), .val (.int p3), .val (.int p4), .val (.int c0), .val (.int c1), .val (.int c2), .val (.int (p4 &&& (7 : Int32))), .unset, .unset, .unset] [(.int (0 : Int32))])) (fun t k => ?_) ?_
    · show Steps p.tables e below (s₁.setTop (mkF m 32 #[.val (.int p1), .val (.int p2), .val (.int p3), .val (.int p4), .val (.int c0), .val (.int c1), .val (.int c2), .val (.int (p4 &&& (7 : Int32))), .unset, .unset, .unset] [])) _
      refine XS.iconst X0.here hx rfl (hb hby at_32) ?_
      exact k
    obtain ⟨T102, h102, k102, X102, e102, E102, A102, st102⟩ := newP X0 hx hZ (own_w hw 1 rfl) e0 (g := (mkF m 33 #[.val (.int p1), .val (.int p2), .val (.int p3), .val (.int p4), .val (.int c0), .val (.int c1), .val (.int c2), .val (.int (p4 &&& (7 : Int32))), .unset, .unset, .unset] [(.int (0 : Int32))])) rfl (hb hby at_33) rfl (by decide) (cap := 0) (by decide) (by decide) (by decide) (by decide)
    obtain ⟨b102, g102⟩ : ∃ z, z = h0.size := ⟨_, rfl⟩
    rw [← g102] at A102 st102
    have gn102 : n0 ≤ b102 := Nat.le_trans Z0 (Nat.le_of_eq g102.symm)
    have f103 := Nat.le_trans Z0 E102.1
    have f104 := Nat.le_trans hk0 E102.1
    have f105 := CHv.ext E102 HC
    have f106 := S_C.ext E102
    have f107 := S_F.ext E102
    have f108 := S_A.ext E102
    have f109 := S_H.ext E102
    have f110 := S_L.ext E102
    have f111 : Arf Z h102 b102 k102 .char (0 : Int32) (fun _ => .int (0 : Int32)) := Arf.new A102 (by decide)
    refine EndsW.go st102 ?_
    show EndsW _ _ _ _ _ _ _ (T102.setTop (mkF m 35 #[.val (.int p1), .val (.int p2), .val (.int p3), .val (.int p4), .val (.int c0), .val (.int c1), .val (.int c2), .val (.int (p4 &&& (7 : Int32))), .unset, .unset, .unset] [(.ref b102)]))
    refine EndsW.go (b := T102.setTop (mkF m 272 #[.val (.int p1), .val (.int p2), .val (.int p3), .val (.int p4), .val (.int c0), .val (.int c1), .val (.int c2), .val (.int (p4 &&& (7 : Int32))), .val (.ref b102), .val (.int (0 : Int32)), .unset] [])) (fun t k => ?_) ?_
    · show Steps p.tables e below (T102.setTop (mkF m 35 #[.val (.int p1), .val (.int p2), .val (.int p3), .val (.int p4), .val (.int c0), .val (.int c1), .val (.int c2), .val (.int (p4 &&& (7 : Int32))), .unset, .unset, .unset] [(.ref b102)])) _
      refine XS.astore X102.here hx rfl (hb hby at_35) rfl rfl (l' := #[.val (.int p1), .val (.int p2), .val (.int p3), .val (.int p4), .val (.int c0), .val (.int c1), .val (.int c2), .val (.int (p4 &&& (7 : Int32))), .val (.ref b102), .unset, .unset]) rfl ?_
      refine XS.iconst X102.here hx rfl (hb hby at_37) ?_
      refine XS.istore X102.here hx rfl (hb hby at_38) rfl (l' := #[.val (.int p1), .val (.int p2), .val (.int p3), .val (.int p4), .val (.int c0), .val (.int c1), .val (.int c2), .val (.int (p4 &&& (7 : Int32))), .val (.ref b102), .val (.int (0 : Int32)), .unset]) rfl ?_
      show Steps p.tables e below (T102.setTop (mkF m 40 #[.val (.int p1), .val (.int p2), .val (.int p3), .val (.int p4), .val (.int c0), .val (.int c1), .val (.int c2), .val (.int (p4 &&& (7 : Int32))), .val (.ref b102), .val (.int (0 : Int32)), .unset] [])) _
      refine XS.goto X102.here hx rfl (pc0 := 40) (pc' := 272) rfl (hb hby at_40) (by decide) (by decide) ?_
      exact k
    obtain ⟨T113, h113, X113, e113, E113, A113, D113, -, st113⟩ := newO X102 hx hZ hown (own_w hw 6 rfl) (own_w hw 7 rfl) (own_w hw 8 rfl) e102 (g := (mkF m 272 #[.val (.int p1), .val (.int p2), .val (.int p3), .val (.int p4), .val (.int c0), .val (.int c1), .val (.int c2), .val (.int (p4 &&& (7 : Int32))), .val (.ref b102), .val (.int (0 : Int32)), .unset] [])) rfl (hb hby at_272) (by decide) (by decide)
    obtain ⟨b113, g113⟩ : ∃ z, z = h102.size := ⟨_, rfl⟩
    rw [← g113] at A113 D113 st113
    have gn113 : n0 ≤ b113 := Nat.le_trans f103 (Nat.le_of_eq g113.symm)
    have ne113_b102 : b102 ≠ b113 := Nat.ne_of_lt (Nat.lt_of_lt_of_le f111.lt (Nat.le_of_eq g113.symm))
    have f114 := Nat.le_trans f103 E113.1
    have f115 := Nat.le_trans f104 E113.1
    have f116 := CHv.ext E113 f105
    have f117 := f106.ext E113
    have f118 := f107.ext E113
    have f119 := f108.ext E113
    have f120 := f109.ext E113
    have f121 := f110.ext E113
    have f122 := f111.ext E113
    have f123 : Fld Z h113 b113 "java/lang/String" "coder" "B" (.int (0 : Int32)) := D113 (Or.inr (own_w hw 32 rfl)) (ty := .byte) (by decide)
    have f124 : Fld Z h113 b113 "java/lang/String" "value" "[B" .null := D113 (Or.inr (own_w hw 34 rfl)) (ty := (.array .byte)) (by decide)
    refine EndsW.go st113 ?_
    show EndsW _ _ _ _ _ _ _ (T113.setTop (mkF m 275 #[.val (.int p1), .val (.int p2), .val (.int p3), .val (.int p4), .val (.int c0), .val (.int c1), .val (.int c2), .val (.int (p4 &&& (7 : Int32))), .val (.ref b102), .val (.int (0 : Int32)), .unset] [(.ref b113)]))
    refine EndsW.go (b := T113.setTop (mkF m 278 #[.val (.int p1), .val (.int p2), .val (.int p3), .val (.int p4), .val (.int c0), .val (.int c1), .val (.int c2), .val (.int (p4 &&& (7 : Int32))), .val (.ref b102), .val (.int (0 : Int32)), .unset] [(.ref b102), (.ref b113), (.ref b113)])) (fun t k => ?_) ?_
    · show Steps p.tables e below (T113.setTop (mkF m 275 #[.val (.int p1), .val (.int p2), .val (.int p3), .val (.int p4), .val (.int c0), .val (.int c1), .val (.int c2), .val (.int (p4 &&& (7 : Int32))), .val (.ref b102), .val (.int (0 : Int32)), .unset] [(.ref b113)])) _
      refine XS.dup X113.here hx rfl (hb hby at_275) rfl rfl ?_
      refine XS.aload X113.here hx rfl (hb hby at_276) rfl rfl ?_
      exact k
    obtain ⟨_, _, ⟨T125, L125, kk125, nn125⟩, -, Y125, hs125, hg125, ⟨Lc125, hQ125, l125, y125, z125⟩, st125⟩ := X113.specialBackS hx (y := (⟨"java/lang/String", "<init>", "([C)V"⟩ : MethodName)) rfl hown (mvT hZ (own_w hw 9 rfl)) (mvT hZ (own_w hw 10 rfl)) (mvT hZ (own_w hw 11 rfl)) (by decide) (own_backSH (W := 1) (rmI2E l Z a0 hw [] b113 b102 k102 (fun _ => .int (0 : Int32)) (own_ch3 c0 c1 c2) h113 n0 f114 A113 f124 f123 gn113 (Ne.symm ne113_b102) f122) hZ (own_w hw 11 rfl) (own_w hw 8 rfl) (by decide) (by decide) hEL f116) (g := (mkF m 278 #[.val (.int p1), .val (.int p2), .val (.int p3), .val (.int p4), .val (.int c0), .val (.int c1), .val (.int c2), .val (.int (p4 &&& (7 : Int32))), .val (.ref b102), .val (.int (0 : Int32)), .unset] [(.ref b102), (.ref b113), (.ref b113)])) rfl (by rw [hml]; rfl) (Steps.refl _) (a := b113) (argsL := [(.ref b102)]) (rest := [(.ref b113)]) (lenOf pd_16 rfl) rfl (by show 2 * 0 + _ ≤ _; exact Nat.le_of_eq rfl) (hb hby at_278) (fun _ _ => ⟨rfl, e113, (by decide : 2 + 2 ≤ _), (by decide : 4 + 4 ≤ _)⟩)
    dsimp only [Pt.U, Pt.locs, Pt.cells, Pt.slots] at Y125 hs125 hg125 l125 y125 z125 st125 hQ125
    subst l125 y125 z125
    obtain ⟨rfl, Nq125, K125, Ys125⟩ := hQ125
    obtain ⟨X125, hS125, hZ125, hown125⟩ := rebS hS0 (by rw [e113]; exact f115) Y125 hs125 hg125 hZ hown
    have N125 := Fr.app N0 Nq125
    have f126 := Nat.le_trans f114 K125.1
    have f127 := own_sta_keep f117 K125 A113
    have f128 := own_sta_keep f118 K125 A113
    have f129 := own_sta_keep f119 K125 A113
    have f130 := own_sta_keep f120 K125 A113
    have f131 := own_sta_keep f121 K125 A113
    have f132 := f122.keep K125 (ninS ne113_b102 nin0)
    have f133 := A113.keep K125
    refine EndsW.go (fun t k => st125.trans k) ?_
    show EndsW _ _ _ _ _ _ _ (T125.setTop (mkF m 281 #[.val (.int p1), .val (.int p2), .val (.int p3), .val (.int p4), .val (.int c0), .val (.int c1), .val (.int c2), .val (.int (p4 &&& (7 : Int32))), .val (.ref b102), .val (.int (0 : Int32)), .unset] [(.ref b113)]))
    obtain ⟨_, _, ⟨T134, L134, kk134, nn134⟩, -, X134, ⟨Lc134, hQ134, l134, y134, z134⟩, st134⟩ := Jvm.LawKit.callS X125 hx (y := (⟨"com/example/lossfall/lossfall/model/CertificateClass", "isValidName", "(Ljava/lang/String;)Z"⟩ : MethodName)) hown125 (mvT hZ125 (own_w hw 35 rfl)) (mvT hZ125 (own_w hw 36 rfl)) (mvT hZ125 (own_w hw 37 rfl)) (mvT hZ125 (own_w hw 38 rfl)) (by decide) (backOf (W := 0) (rm8 l Z a0 hw [] b113 cs fv (0 : Int32) (own_ch3 c0 c1 c2) T125.heap n0 f126 ⟨f127, hcs, f128, hfv, f129, f130, f131⟩ Ys125 (by decide) (by decide) (own_ch3R c0 c1 c2 hc0 hc1 hc2) Ys125.1) hZ125 (own_w hw 38 rfl) (own_w hw 37 rfl) (by decide) (by decide)) (g := (mkF m 281 #[.val (.int p1), .val (.int p2), .val (.int p3), .val (.int p4), .val (.int c0), .val (.int c1), .val (.int c2), .val (.int (p4 &&& (7 : Int32))), .val (.ref b102), .val (.int (0 : Int32)), .unset] [(.ref b113)])) rfl (by rw [hml]; rfl) (argsL := [(.ref b113)]) (rest := []) (lenOf pd_17 rfl) rfl (by show 2 * 0 + _ ≤ _; exact Nat.le_of_eq rfl) (hb hby at_281) (fun _ _ => ⟨rfl, rfl, (by decide : 4 + 0 ≤ _), (by decide : 8 + 0 ≤ _)⟩)
    dsimp only [Pt.U, Pt.locs, Pt.cells, Pt.slots] at X134 l134 y134 z134 st134 hQ134
    subst l134 y134 z134
    obtain ⟨rfl, Nq134, eq134⟩ := hQ134
    have N134 := Fr.app N125 Nq134
    refine EndsW.go st134 ?_
    show EndsW _ _ _ _ _ _ _ (T134.setTop (mkF m 284 #[.val (.int p1), .val (.int p2), .val (.int p3), .val (.int p4), .val (.int c0), .val (.int c1), .val (.int c2), .val (.int (p4 &&& (7 : Int32))), .val (.ref b102), .val (.int (0 : Int32)), .unset] [(.int (own_val (0 : Int32) (own_ch3 c0 c1 c2)))]))
    refine EndsW.go (b := T134.setTop (mkF m 294 #[.val (.int p1), .val (.int p2), .val (.int p3), .val (.int p4), .val (.int c0), .val (.int c1), .val (.int c2), .val (.int (p4 &&& (7 : Int32))), .val (.ref b102), .val (.int (0 : Int32)), .unset] [(.int (1 : Int32))])) (fun t k => ?_) ?_
    · show Steps p.tables e below (T134.setTop (mkF m 284 #[.val (.int p1), .val (.int p2), .val (.int p3), .val (.int p4), .val (.int c0), .val (.int c1), .val (.int c2), .val (.int (p4 &&& (7 : Int32))), .val (.ref b102), .val (.int (0 : Int32)), .unset] [(.int (own_val (0 : Int32) (own_ch3 c0 c1 c2)))])) _
      refine XS.iload X134.here hx rfl (hb hby at_284) rfl ?_
      show Steps p.tables e below (T134.setTop (mkF m 286 #[.val (.int p1), .val (.int p2), .val (.int p3), .val (.int p4), .val (.int c0), .val (.int c1), .val (.int c2), .val (.int (p4 &&& (7 : Int32))), .val (.ref b102), .val (.int (0 : Int32)), .unset] [(.int (0 : Int32)), (.int (own_val (0 : Int32) (own_ch3 c0 c1 c2)))])) _
      refine XS.icmpNo X134.here hx rfl (hb hby at_286) rfl (teq (own_vE _)).2 ?_
      show Steps p.tables e below (T134.setTop (mkF m 289 #[.val (.int p1), .val (.int p2), .val (.int p3), .val (.int p4), .val (.int c0), .val (.int c1), .val (.int c2), .val (.int (p4 &&& (7 : Int32))), .val (.ref b102), .val (.int (0 : Int32)), .unset] [])) _
      refine XS.iconst X134.here hx rfl (hb hby at_289) ?_
      refine XS.goto X134.here hx rfl (pc0 := 290) (pc' := 294) rfl (hb hby at_290) (by decide) (by decide) ?_
      exact k
    refine EndsW.retN X134 hS125 (by rw [eq134]; exact (Nat.le_refl T125.heap.size)) hx Bd.notSynchronized (t := .boolean) Bd.returns (by simp) (hb hby at_294) (by decide) (by decide) ?_
    show Q0 Z p1 p2 p3 p4 cs fv h0 n0 (some (.int (nar .boolean (1 : Int32)))) T134.heap _
    rw [eq134]
    exact ⟨rfl, N134⟩
  · refine EndsW.go (b := s₁.setTop (mkF m 43 #[.val (.int p1), .val (.int p2), .val (.int p3), .val (.int p4), .val (.int c0), .val (.int c1), .val (.int c2), .val (.int (p4 &&& (7 : Int32))), .unset, .unset, .unset] [])) (fun t k => ?_) ?_
    · show Steps p.tables e below (s₁.setTop (mkF m 29 #[.val (.int p1), .val (.int p2), .val (.int p3), .val (.int p4), .val (.int c0), .val (.int c1), .val (.int c2), .val (.int (p4 &&& (7 : Int32))), .unset, .unset, .unset] [(.int (p4 &&& (7 : Int32)))])) _
      refine XS.ifYes X0.here hx rfl (pc0 := 29) (pc' := 43) rfl (hb hby at_29) rfl ((if0 _ _).trans (feq hc29_101).2) (by decide) (by decide) ?_
      show Steps p.tables e below (s₁.setTop (mkF m 43 #[.val (.int p1), .val (.int p2), .val (.int p3), .val (.int p4), .val (.int c0), .val (.int c1), .val (.int c2), .val (.int (p4 &&& (7 : Int32))), .unset, .unset, .unset] [])) _
      exact k
    refine EndsW.go (b := s₁.setTop (mkF m 46 #[.val (.int p1), .val (.int p2), .val (.int p3), .val (.int p4), .val (.int c0), .val (.int c1), .val (.int c2), .val (.int (p4 &&& (7 : Int32))), .unset, .unset, .unset] [(.int (1 : Int32)), (.int (p4 &&& (7 : Int32)))])) (fun t k => ?_) ?_
    · show Steps p.tables e below (s₁.setTop (mkF m 43 #[.val (.int p1), .val (.int p2), .val (.int p3), .val (.int p4), .val (.int c0), .val (.int c1), .val (.int c2), .val (.int (p4 &&& (7 : Int32))), .unset, .unset, .unset] [])) _
      refine XS.iload X0.here hx rfl (hb hby at_43) rfl ?_
      refine XS.iconst X0.here hx rfl (hb hby at_45) ?_
      show Steps p.tables e below (s₁.setTop (mkF m 46 #[.val (.int p1), .val (.int p2), .val (.int p3), .val (.int p4), .val (.int c0), .val (.int c1), .val (.int c2), .val (.int (p4 &&& (7 : Int32))), .unset, .unset, .unset] [(.int (1 : Int32)), (.int (p4 &&& (7 : Int32)))])) _
      exact k
    by_cases hc46_135 : (p4 &&& (7 : Int32)) = (1 : Int32)
    · refine EndsW.go (b := s₁.setTop (mkF m 49 #[.val (.int p1), .val (.int p2), .val (.int p3), .val (.int p4), .val (.int c0), .val (.int c1), .val (.int c2), .val (.int (p4 &&& (7 : Int32))), .unset, .unset, .unset] [])) (fun t k => ?_) ?_
      · show Steps p.tables e below (s₁.setTop (mkF m 46 #[.val (.int p1), .val (.int p2), .val (.int p3), .val (.int p4), .val (.int c0), .val (.int c1), .val (.int c2), .val (.int (p4 &&& (7 : Int32))), .unset, .unset, .unset] [(.int (1 : Int32)), (.int (p4 &&& (7 : Int32)))])) _
        refine XS.icmpNo X0.here hx rfl (hb hby at_46) rfl (teq hc46_135).2 ?_
        show Steps p.tables e below (s₁.setTop (mkF m 49 #[.val (.int p1), .val (.int p2), .val (.int p3), .val (.int p4), .val (.int c0), .val (.int c1), .val (.int c2), .val (.int (p4 &&& (7 : Int32))), .unset, .unset, .unset] [])) _
        exact k
      refine EndsW.go (b := s₁.setTop (mkF m 50 #[.val (.int p1), .val (.int p2), .val (.int p3), .val (.int p4), .val (.int c0), .val (.int c1), .val (.int c2), .val (.int (p4 &&& (7 : Int32))), .unset, .unset, .unset] [(.int (1 : Int32))])) (fun t k => ?_) ?_
      · show Steps p.tables e below (s₁.setTop (mkF m 49 #[.val (.int p1), .val (.int p2), .val (.int p3), .val (.int p4), .val (.int c0), .val (.int c1), .val (.int c2), .val (.int (p4 &&& (7 : Int32))), .unset, .unset, .unset] [])) _
        refine XS.iconst X0.here hx rfl (hb hby at_49) ?_
        exact k
      obtain ⟨T136, h136, k136, X136, e136, E136, A136, st136⟩ := newP X0 hx hZ (own_w hw 1 rfl) e0 (g := (mkF m 50 #[.val (.int p1), .val (.int p2), .val (.int p3), .val (.int p4), .val (.int c0), .val (.int c1), .val (.int c2), .val (.int (p4 &&& (7 : Int32))), .unset, .unset, .unset] [(.int (1 : Int32))])) rfl (hb hby at_50) rfl (by decide) (cap := 1) (by decide) (by decide) (by decide) (by decide)
      obtain ⟨b136, g136⟩ : ∃ z, z = h0.size := ⟨_, rfl⟩
      rw [← g136] at A136 st136
      have gn136 : n0 ≤ b136 := Nat.le_trans Z0 (Nat.le_of_eq g136.symm)
      have f137 := Nat.le_trans Z0 E136.1
      have f138 := Nat.le_trans hk0 E136.1
      have f139 := CHv.ext E136 HC
      have f140 := S_C.ext E136
      have f141 := S_F.ext E136
      have f142 := S_A.ext E136
      have f143 := S_H.ext E136
      have f144 := S_L.ext E136
      have f145 : Arf Z h136 b136 k136 .char (1 : Int32) (fun _ => .int (0 : Int32)) := Arf.new A136 (by decide)
      refine EndsW.go st136 ?_
      show EndsW _ _ _ _ _ _ _ (T136.setTop (mkF m 52 #[.val (.int p1), .val (.int p2), .val (.int p3), .val (.int p4), .val (.int c0), .val (.int c1), .val (.int c2), .val (.int (p4 &&& (7 : Int32))), .unset, .unset, .unset] [(.ref b136)]))
      refine EndsW.go (b := T136.setTop (mkF m 56 #[.val (.int p1), .val (.int p2), .val (.int p3), .val (.int p4), .val (.int c0), .val (.int c1), .val (.int c2), .val (.int (p4 &&& (7 : Int32))), .unset, .unset, .unset] [(.int c0), (.int (0 : Int32)), (.ref b136), (.ref b136)])) (fun t k => ?_) ?_
      · show Steps p.tables e below (T136.setTop (mkF m 52 #[.val (.int p1), .val (.int p2), .val (.int p3), .val (.int p4), .val (.int c0), .val (.int c1), .val (.int c2), .val (.int (p4 &&& (7 : Int32))), .unset, .unset, .unset] [(.ref b136)])) _
        refine XS.dup X136.here hx rfl (hb hby at_52) rfl rfl ?_
        refine XS.iconst X136.here hx rfl (hb hby at_53) ?_
        refine XS.iload X136.here hx rfl (hb hby at_54) rfl ?_
        show Steps p.tables e below (T136.setTop (mkF m 56 #[.val (.int p1), .val (.int p2), .val (.int p3), .val (.int p4), .val (.int c0), .val (.int c1), .val (.int c2), .val (.int (p4 &&& (7 : Int32))), .unset, .unset, .unset] [(.int c0), (.int (0 : Int32)), (.ref b136), (.ref b136)])) _
        exact k
      obtain ⟨cl146, Ar146, q146, S146, M146, H146, G146⟩ := id f145
      have hin146 : ¬ ((0 : Int32) < 0 ∨ cl146.slots.size ≤ ((0 : Int32)).toNatClampNeg) := inb_of S146 ⟨by decide, by decide⟩
      obtain ⟨T146, h146, X146, e146, W146, st146⟩ := stC X136 hx hZ e136 Ar146 (j := (0 : Int32)) hin146 (g := (mkF m 56 #[.val (.int p1), .val (.int p2), .val (.int p3), .val (.int p4), .val (.int c0), .val (.int c1), .val (.int c2), .val (.int (p4 &&& (7 : Int32))), .unset, .unset, .unset] [(.int c0), (.int (0 : Int32)), (.ref b136), (.ref b136)])) rfl rfl (hb hby at_56)
      have fa146 := Arf.set (v := .int (nar .char c0)) Ar146 q146 S146 M146 H146 G146 (fits_nar_char c0) W146
      have f147 := Nat.le_trans f137 (Keep.of_wr W146).1
      have f148 := Nat.le_trans f138 (Keep.of_wr W146).1
      have f150 := f140.wr W146
      have f151 := f141.wr W146
      have f152 := f142.wr W146
      have f153 := f143.wr W146
      have f154 := f144.wr W146
      have N146 := Fr.snoc X146 N0 gn136
      refine EndsW.go st146 ?_
      show EndsW _ _ _ _ _ _ _ (T146.setTop (mkF m 57 #[.val (.int p1), .val (.int p2), .val (.int p3), .val (.int p4), .val (.int c0), .val (.int c1), .val (.int c2), .val (.int (p4 &&& (7 : Int32))), .unset, .unset, .unset] [(.ref b136)]))
      refine EndsW.go (b := T146.setTop (mkF m 61 #[.val (.int p1), .val (.int p2), .val (.int p3), .val (.int p4), .val (.int c0), .val (.int c1), .val (.int c2), .val (.int (p4 &&& (7 : Int32))), .val (.ref b136), .unset, .unset] [(.int c0)])) (fun t k => ?_) ?_
      · show Steps p.tables e below (T146.setTop (mkF m 57 #[.val (.int p1), .val (.int p2), .val (.int p3), .val (.int p4), .val (.int c0), .val (.int c1), .val (.int c2), .val (.int (p4 &&& (7 : Int32))), .unset, .unset, .unset] [(.ref b136)])) _
        refine XS.astore X146.here hx rfl (hb hby at_57) rfl rfl (l' := #[.val (.int p1), .val (.int p2), .val (.int p3), .val (.int p4), .val (.int c0), .val (.int c1), .val (.int c2), .val (.int (p4 &&& (7 : Int32))), .val (.ref b136), .unset, .unset]) rfl ?_
        refine XS.iload X146.here hx rfl (hb hby at_59) rfl ?_
        exact k
      obtain ⟨_, _, ⟨T155, L155, kk155, nn155⟩, -, X155, ⟨Lc155, hQ155, l155, y155, z155⟩, st155⟩ := Jvm.LawKit.callS X146 hx (y := (⟨"com/example/lossfall/lossfall/model/CertificateClassIsValidNamePinLaw", "ok", "(C)Z"⟩ : MethodName)) hown (mvT hZ (own_w hw 2 rfl)) (mvT hZ (own_w hw 3 rfl)) (mvT hZ (own_w hw 4 rfl)) (mvT hZ (own_w hw 5 rfl)) (by decide) (backOf (W := 0) (rm1 l Z a0 hw [] c0 h146 n0 f147 hc0.1) hZ (own_w hw 5 rfl) (own_w hw 4 rfl) (by decide) (by decide)) (g := (mkF m 61 #[.val (.int p1), .val (.int p2), .val (.int p3), .val (.int p4), .val (.int c0), .val (.int c1), .val (.int c2), .val (.int (p4 &&& (7 : Int32))), .val (.ref b136), .unset, .unset] [(.int c0)])) rfl (by rw [hml]; rfl) (argsL := [(.int c0)]) (rest := []) (lenOf pd_18 rfl) rfl (by show 2 * 0 + _ ≤ _; exact Nat.le_of_eq rfl) (hb hby at_61) (fun _ _ => ⟨rfl, e146, (by decide : 1 + 0 ≤ _), (by decide : 1 + 0 ≤ _)⟩)
      dsimp only [Pt.U, Pt.locs, Pt.cells, Pt.slots] at X155 l155 y155 z155 st155 hQ155
      subst l155 y155 z155
      obtain ⟨rfl, Nq155, eq155⟩ := hQ155
      have N155 := Fr.app N146 Nq155
      refine EndsW.go st155 ?_
      show EndsW _ _ _ _ _ _ _ (T155.setTop (mkF m 64 #[.val (.int p1), .val (.int p2), .val (.int p3), .val (.int p4), .val (.int c0), .val (.int c1), .val (.int c2), .val (.int (p4 &&& (7 : Int32))), .val (.ref b136), .unset, .unset] [(.int (own_okc c0))]))
      refine EndsW.go (b := T155.setTop (mkF m 272 #[.val (.int p1), .val (.int p2), .val (.int p3), .val (.int p4), .val (.int c0), .val (.int c1), .val (.int c2), .val (.int (p4 &&& (7 : Int32))), .val (.ref b136), .val (.int (own_okc c0)), .unset] [])) (fun t k => ?_) ?_
      · show Steps p.tables e below (T155.setTop (mkF m 64 #[.val (.int p1), .val (.int p2), .val (.int p3), .val (.int p4), .val (.int c0), .val (.int c1), .val (.int c2), .val (.int (p4 &&& (7 : Int32))), .val (.ref b136), .unset, .unset] [(.int (own_okc c0))])) _
        refine XS.istore X155.here hx rfl (hb hby at_64) rfl (l' := #[.val (.int p1), .val (.int p2), .val (.int p3), .val (.int p4), .val (.int c0), .val (.int c1), .val (.int c2), .val (.int (p4 &&& (7 : Int32))), .val (.ref b136), .val (.int (own_okc c0)), .unset]) rfl ?_
        refine XS.goto X155.here hx rfl (pc0 := 66) (pc' := 272) rfl (hb hby at_66) (by decide) (by decide) ?_
        show Steps p.tables e below (T155.setTop (mkF m 272 #[.val (.int p1), .val (.int p2), .val (.int p3), .val (.int p4), .val (.int c0), .val (.int c1), .val (.int c2), .val (.int (p4 &&& (7 : Int32))), .val (.ref b136), .val (.int (own_okc c0)), .unset] [])) _
        exact k
      have Gc156 : Arf Z h146 b136 k136 .char (1 : Int32) (own_cv (own_ch3 c0 c1 c2)) := own_a1 c1 c2 fa146 hc0
      obtain ⟨T157, h157, X157, e157, E157, A157, D157, -, st157⟩ := newO X155 hx hZ hown (own_w hw 6 rfl) (own_w hw 7 rfl) (own_w hw 8 rfl) eq155 (g := (mkF m 272 #[.val (.int p1), .val (.int p2), .val (.int p3), .val (.int p4), .val (.int c0), .val (.int c1), .val (.int c2), .val (.int (p4 &&& (7 : Int32))), .val (.ref b136), .val (.int (own_okc c0)), .unset] [])) rfl (hb hby at_272) (by decide) (by decide)
      obtain ⟨b157, g157⟩ : ∃ z, z = h146.size := ⟨_, rfl⟩
      rw [← g157] at A157 D157 st157
      have gn157 : n0 ≤ b157 := Nat.le_trans f147 (Nat.le_of_eq g157.symm)
      have ne157_b136 : b136 ≠ b157 := Nat.ne_of_lt (Nat.lt_of_lt_of_le Gc156.lt (Nat.le_of_eq g157.symm))
      have f158 := Nat.le_trans f147 E157.1
      have f159 := Nat.le_trans f148 E157.1
      have f160 := f150.ext E157
      have f161 := f151.ext E157
      have f162 := f152.ext E157
      have f163 := f153.ext E157
      have f164 := f154.ext E157
      have f165 := Gc156.ext E157
      have f166 : Fld Z h157 b157 "java/lang/String" "coder" "B" (.int (0 : Int32)) := D157 (Or.inr (own_w hw 32 rfl)) (ty := .byte) (by decide)
      have f167 : Fld Z h157 b157 "java/lang/String" "value" "[B" .null := D157 (Or.inr (own_w hw 34 rfl)) (ty := (.array .byte)) (by decide)
      refine EndsW.go st157 ?_
      show EndsW _ _ _ _ _ _ _ (T157.setTop (mkF m 275 #[.val (.int p1), .val (.int p2), .val (.int p3), .val (.int p4), .val (.int c0), .val (.int c1), .val (.int c2), .val (.int (p4 &&& (7 : Int32))), .val (.ref b136), .val (.int (own_okc c0)), .unset] [(.ref b157)]))
      refine EndsW.go (b := T157.setTop (mkF m 278 #[.val (.int p1), .val (.int p2), .val (.int p3), .val (.int p4), .val (.int c0), .val (.int c1), .val (.int c2), .val (.int (p4 &&& (7 : Int32))), .val (.ref b136), .val (.int (own_okc c0)), .unset] [(.ref b136), (.ref b157), (.ref b157)])) (fun t k => ?_) ?_
      · show Steps p.tables e below (T157.setTop (mkF m 275 #[.val (.int p1), .val (.int p2), .val (.int p3), .val (.int p4), .val (.int c0), .val (.int c1), .val (.int c2), .val (.int (p4 &&& (7 : Int32))), .val (.ref b136), .val (.int (own_okc c0)), .unset] [(.ref b157)])) _
        refine XS.dup X157.here hx rfl (hb hby at_275) rfl rfl ?_
        refine XS.aload X157.here hx rfl (hb hby at_276) rfl rfl ?_
        exact k
      obtain ⟨_, _, ⟨T168, L168, kk168, nn168⟩, -, X168, ⟨Lc168, hQ168, l168, y168, z168⟩, st168⟩ := X157.specialBack hx (y := (⟨"java/lang/String", "<init>", "([C)V"⟩ : MethodName)) rfl hown (mvT hZ (own_w hw 9 rfl)) (mvT hZ (own_w hw 10 rfl)) (mvT hZ (own_w hw 11 rfl)) (by decide) (backOf (W := 1) (rm2 l Z a0 hw [] b157 b136 cs fv k136 (1 : Int32) (own_ch3 c0 c1 c2) h157 n0 f158 ⟨f160, hcs, f161, hfv, f162, f163, f164⟩ A157 f167 f166 gn157 (Ne.symm ne157_b136) f165 (by decide) (by decide) (by decide) (own_ch3R c0 c1 c2 hc0 hc1 hc2)) hZ (own_w hw 11 rfl) (own_w hw 8 rfl) (by decide) (by decide)) (g := (mkF m 278 #[.val (.int p1), .val (.int p2), .val (.int p3), .val (.int p4), .val (.int c0), .val (.int c1), .val (.int c2), .val (.int (p4 &&& (7 : Int32))), .val (.ref b136), .val (.int (own_okc c0)), .unset] [(.ref b136), (.ref b157), (.ref b157)])) rfl (by rw [hml]; rfl) (Steps.refl _) (a := b157) (argsL := [(.ref b136)]) (rest := [(.ref b157)]) (lenOf pd_16 rfl) rfl (by show 2 * 0 + _ ≤ _; exact Nat.le_of_eq rfl) (hb hby at_278) (fun _ _ => ⟨rfl, e157, (by decide : 2 + 2 ≤ _), (by decide : 5 + 99 ≤ _)⟩)
      dsimp only [Pt.U, Pt.locs, Pt.cells, Pt.slots] at X168 l168 y168 z168 st168 hQ168
      subst l168 y168 z168
      obtain ⟨rfl, Nq168, K168, Ys168⟩ := hQ168
      have N168 := Fr.app N155 Nq168
      have f169 := Nat.le_trans f158 K168.1
      have f170 := Nat.le_trans f159 K168.1
      have f171 := own_sta_keep f160 K168 A157
      have f172 := own_sta_keep f161 K168 A157
      have f173 := own_sta_keep f162 K168 A157
      have f174 := own_sta_keep f163 K168 A157
      have f175 := own_sta_keep f164 K168 A157
      have f176 := f165.keep K168 (ninS ne157_b136 nin0)
      have f177 := A157.keep K168
      refine EndsW.go (fun t k => st168.trans k) ?_
      show EndsW _ _ _ _ _ _ _ (T168.setTop (mkF m 281 #[.val (.int p1), .val (.int p2), .val (.int p3), .val (.int p4), .val (.int c0), .val (.int c1), .val (.int c2), .val (.int (p4 &&& (7 : Int32))), .val (.ref b136), .val (.int (own_okc c0)), .unset] [(.ref b157)]))
      obtain ⟨_, _, ⟨T178, L178, kk178, nn178⟩, -, X178, ⟨Lc178, hQ178, l178, y178, z178⟩, st178⟩ := Jvm.LawKit.callS X168 hx (y := (⟨"com/example/lossfall/lossfall/model/CertificateClass", "isValidName", "(Ljava/lang/String;)Z"⟩ : MethodName)) hown (mvT hZ (own_w hw 35 rfl)) (mvT hZ (own_w hw 36 rfl)) (mvT hZ (own_w hw 37 rfl)) (mvT hZ (own_w hw 38 rfl)) (by decide) (backOf (W := 0) (rm8 l Z a0 hw [] b157 cs fv (1 : Int32) (own_ch3 c0 c1 c2) T168.heap n0 f169 ⟨f171, hcs, f172, hfv, f173, f174, f175⟩ Ys168 (by decide) (by decide) (own_ch3R c0 c1 c2 hc0 hc1 hc2) Ys168.1) hZ (own_w hw 38 rfl) (own_w hw 37 rfl) (by decide) (by decide)) (g := (mkF m 281 #[.val (.int p1), .val (.int p2), .val (.int p3), .val (.int p4), .val (.int c0), .val (.int c1), .val (.int c2), .val (.int (p4 &&& (7 : Int32))), .val (.ref b136), .val (.int (own_okc c0)), .unset] [(.ref b157)])) rfl (by rw [hml]; rfl) (argsL := [(.ref b157)]) (rest := []) (lenOf pd_17 rfl) rfl (by show 2 * 0 + _ ≤ _; exact Nat.le_of_eq rfl) (hb hby at_281) (fun _ _ => ⟨rfl, rfl, (by decide : 4 + 0 ≤ _), (by decide : 104 + 0 ≤ _)⟩)
      dsimp only [Pt.U, Pt.locs, Pt.cells, Pt.slots] at X178 l178 y178 z178 st178 hQ178
      subst l178 y178 z178
      obtain ⟨rfl, Nq178, eq178⟩ := hQ178
      have N178 := Fr.app N168 Nq178
      refine EndsW.go st178 ?_
      show EndsW _ _ _ _ _ _ _ (T178.setTop (mkF m 284 #[.val (.int p1), .val (.int p2), .val (.int p3), .val (.int p4), .val (.int c0), .val (.int c1), .val (.int c2), .val (.int (p4 &&& (7 : Int32))), .val (.ref b136), .val (.int (own_okc c0)), .unset] [(.int (own_val (1 : Int32) (own_ch3 c0 c1 c2)))]))
      refine EndsW.go (b := T178.setTop (mkF m 294 #[.val (.int p1), .val (.int p2), .val (.int p3), .val (.int p4), .val (.int c0), .val (.int c1), .val (.int c2), .val (.int (p4 &&& (7 : Int32))), .val (.ref b136), .val (.int (own_okc c0)), .unset] [(.int (1 : Int32))])) (fun t k => ?_) ?_
      · show Steps p.tables e below (T178.setTop (mkF m 284 #[.val (.int p1), .val (.int p2), .val (.int p3), .val (.int p4), .val (.int c0), .val (.int c1), .val (.int c2), .val (.int (p4 &&& (7 : Int32))), .val (.ref b136), .val (.int (own_okc c0)), .unset] [(.int (own_val (1 : Int32) (own_ch3 c0 c1 c2)))])) _
        refine XS.iload X178.here hx rfl (hb hby at_284) rfl ?_
        refine XS.icmpNo X178.here hx rfl (hb hby at_286) rfl (teq (own_vS c0 c1 c2)).2 ?_
        show Steps p.tables e below (T178.setTop (mkF m 289 #[.val (.int p1), .val (.int p2), .val (.int p3), .val (.int p4), .val (.int c0), .val (.int c1), .val (.int c2), .val (.int (p4 &&& (7 : Int32))), .val (.ref b136), .val (.int (own_okc c0)), .unset] [])) _
        refine XS.iconst X178.here hx rfl (hb hby at_289) ?_
        show Steps p.tables e below (T178.setTop (mkF m 290 #[.val (.int p1), .val (.int p2), .val (.int p3), .val (.int p4), .val (.int c0), .val (.int c1), .val (.int c2), .val (.int (p4 &&& (7 : Int32))), .val (.ref b136), .val (.int (own_okc c0)), .unset] [(.int (1 : Int32))])) _
        refine XS.goto X178.here hx rfl (pc0 := 290) (pc' := 294) rfl (hb hby at_290) (by decide) (by decide) ?_
        exact k
      refine EndsW.retN X178 hS0 (by rw [eq178]; exact f170) hx Bd.notSynchronized (t := .boolean) Bd.returns (by simp) (hb hby at_294) (by decide) (by decide) ?_
      show Q0 Z p1 p2 p3 p4 cs fv h0 n0 (some (.int (nar .boolean (1 : Int32)))) T178.heap _
      rw [eq178]
      exact ⟨rfl, N178⟩
    · refine EndsW.go (b := s₁.setTop (mkF m 69 #[.val (.int p1), .val (.int p2), .val (.int p3), .val (.int p4), .val (.int c0), .val (.int c1), .val (.int c2), .val (.int (p4 &&& (7 : Int32))), .unset, .unset, .unset] [])) (fun t k => ?_) ?_
      · show Steps p.tables e below (s₁.setTop (mkF m 46 #[.val (.int p1), .val (.int p2), .val (.int p3), .val (.int p4), .val (.int c0), .val (.int c1), .val (.int c2), .val (.int (p4 &&& (7 : Int32))), .unset, .unset, .unset] [(.int (1 : Int32)), (.int (p4 &&& (7 : Int32)))])) _
        refine XS.icmpYes X0.here hx rfl (pc0 := 46) (pc' := 69) rfl (hb hby at_46) rfl (feq hc46_135).2 (by decide) (by decide) ?_
        show Steps p.tables e below (s₁.setTop (mkF m 69 #[.val (.int p1), .val (.int p2), .val (.int p3), .val (.int p4), .val (.int c0), .val (.int c1), .val (.int c2), .val (.int (p4 &&& (7 : Int32))), .unset, .unset, .unset] [])) _
        exact k
      refine EndsW.go (b := s₁.setTop (mkF m 72 #[.val (.int p1), .val (.int p2), .val (.int p3), .val (.int p4), .val (.int c0), .val (.int c1), .val (.int c2), .val (.int (p4 &&& (7 : Int32))), .unset, .unset, .unset] [(.int (2 : Int32)), (.int (p4 &&& (7 : Int32)))])) (fun t k => ?_) ?_
      · show Steps p.tables e below (s₁.setTop (mkF m 69 #[.val (.int p1), .val (.int p2), .val (.int p3), .val (.int p4), .val (.int c0), .val (.int c1), .val (.int c2), .val (.int (p4 &&& (7 : Int32))), .unset, .unset, .unset] [])) _
        refine XS.iload X0.here hx rfl (hb hby at_69) rfl ?_
        refine XS.iconst X0.here hx rfl (hb hby at_71) ?_
        exact k
      by_cases hc72_179 : (p4 &&& (7 : Int32)) = (2 : Int32)
      · refine EndsW.go (b := s₁.setTop (mkF m 75 #[.val (.int p1), .val (.int p2), .val (.int p3), .val (.int p4), .val (.int c0), .val (.int c1), .val (.int c2), .val (.int (p4 &&& (7 : Int32))), .unset, .unset, .unset] [])) (fun t k => ?_) ?_
        · show Steps p.tables e below (s₁.setTop (mkF m 72 #[.val (.int p1), .val (.int p2), .val (.int p3), .val (.int p4), .val (.int c0), .val (.int c1), .val (.int c2), .val (.int (p4 &&& (7 : Int32))), .unset, .unset, .unset] [(.int (2 : Int32)), (.int (p4 &&& (7 : Int32)))])) _
          refine XS.icmpNo X0.here hx rfl (hb hby at_72) rfl (teq hc72_179).2 ?_
          show Steps p.tables e below (s₁.setTop (mkF m 75 #[.val (.int p1), .val (.int p2), .val (.int p3), .val (.int p4), .val (.int c0), .val (.int c1), .val (.int c2), .val (.int (p4 &&& (7 : Int32))), .unset, .unset, .unset] [])) _
          exact k
        refine EndsW.go (b := s₁.setTop (mkF m 76 #[.val (.int p1), .val (.int p2), .val (.int p3), .val (.int p4), .val (.int c0), .val (.int c1), .val (.int c2), .val (.int (p4 &&& (7 : Int32))), .unset, .unset, .unset] [(.int (2 : Int32))])) (fun t k => ?_) ?_
        · show Steps p.tables e below (s₁.setTop (mkF m 75 #[.val (.int p1), .val (.int p2), .val (.int p3), .val (.int p4), .val (.int c0), .val (.int c1), .val (.int c2), .val (.int (p4 &&& (7 : Int32))), .unset, .unset, .unset] [])) _
          refine XS.iconst X0.here hx rfl (hb hby at_75) ?_
          show Steps p.tables e below (s₁.setTop (mkF m 76 #[.val (.int p1), .val (.int p2), .val (.int p3), .val (.int p4), .val (.int c0), .val (.int c1), .val (.int c2), .val (.int (p4 &&& (7 : Int32))), .unset, .unset, .unset] [(.int (2 : Int32))])) _
          exact k
        obtain ⟨T180, h180, k180, X180, e180, E180, A180, st180⟩ := newP X0 hx hZ (own_w hw 1 rfl) e0 (g := (mkF m 76 #[.val (.int p1), .val (.int p2), .val (.int p3), .val (.int p4), .val (.int c0), .val (.int c1), .val (.int c2), .val (.int (p4 &&& (7 : Int32))), .unset, .unset, .unset] [(.int (2 : Int32))])) rfl (hb hby at_76) rfl (by decide) (cap := 2) (by decide) (by decide) (by decide) (by decide)
        obtain ⟨b180, g180⟩ : ∃ z, z = h0.size := ⟨_, rfl⟩
        rw [← g180] at A180 st180
        have gn180 : n0 ≤ b180 := Nat.le_trans Z0 (Nat.le_of_eq g180.symm)
        have f181 := Nat.le_trans Z0 E180.1
        have f182 := Nat.le_trans hk0 E180.1
        have f183 := CHv.ext E180 HC
        have f184 := S_C.ext E180
        have f185 := S_F.ext E180
        have f186 := S_A.ext E180
        have f187 := S_H.ext E180
        have f188 := S_L.ext E180
        have f189 : Arf Z h180 b180 k180 .char (2 : Int32) (fun _ => .int (0 : Int32)) := Arf.new A180 (by decide)
        refine EndsW.go st180 ?_
        show EndsW _ _ _ _ _ _ _ (T180.setTop (mkF m 78 #[.val (.int p1), .val (.int p2), .val (.int p3), .val (.int p4), .val (.int c0), .val (.int c1), .val (.int c2), .val (.int (p4 &&& (7 : Int32))), .unset, .unset, .unset] [(.ref b180)]))
        refine EndsW.go (b := T180.setTop (mkF m 82 #[.val (.int p1), .val (.int p2), .val (.int p3), .val (.int p4), .val (.int c0), .val (.int c1), .val (.int c2), .val (.int (p4 &&& (7 : Int32))), .unset, .unset, .unset] [(.int c0), (.int (0 : Int32)), (.ref b180), (.ref b180)])) (fun t k => ?_) ?_
        · show Steps p.tables e below (T180.setTop (mkF m 78 #[.val (.int p1), .val (.int p2), .val (.int p3), .val (.int p4), .val (.int c0), .val (.int c1), .val (.int c2), .val (.int (p4 &&& (7 : Int32))), .unset, .unset, .unset] [(.ref b180)])) _
          refine XS.dup X180.here hx rfl (hb hby at_78) rfl rfl ?_
          refine XS.iconst X180.here hx rfl (hb hby at_79) ?_
          refine XS.iload X180.here hx rfl (hb hby at_80) rfl ?_
          exact k
        obtain ⟨cl190, Ar190, q190, S190, M190, H190, G190⟩ := id f189
        have hin190 : ¬ ((0 : Int32) < 0 ∨ cl190.slots.size ≤ ((0 : Int32)).toNatClampNeg) := inb_of S190 ⟨by decide, by decide⟩
        obtain ⟨T190, h190, X190, e190, W190, st190⟩ := stC X180 hx hZ e180 Ar190 (j := (0 : Int32)) hin190 (g := (mkF m 82 #[.val (.int p1), .val (.int p2), .val (.int p3), .val (.int p4), .val (.int c0), .val (.int c1), .val (.int c2), .val (.int (p4 &&& (7 : Int32))), .unset, .unset, .unset] [(.int c0), (.int (0 : Int32)), (.ref b180), (.ref b180)])) rfl rfl (hb hby at_82)
        have fa190 := Arf.set (v := .int (nar .char c0)) Ar190 q190 S190 M190 H190 G190 (fits_nar_char c0) W190
        have f191 := Nat.le_trans f181 (Keep.of_wr W190).1
        have f192 := Nat.le_trans f182 (Keep.of_wr W190).1
        have f194 := f184.wr W190
        have f195 := f185.wr W190
        have f196 := f186.wr W190
        have f197 := f187.wr W190
        have f198 := f188.wr W190
        have N190 := Fr.snoc X190 N0 gn180
        refine EndsW.go st190 ?_
        show EndsW _ _ _ _ _ _ _ (T190.setTop (mkF m 83 #[.val (.int p1), .val (.int p2), .val (.int p3), .val (.int p4), .val (.int c0), .val (.int c1), .val (.int c2), .val (.int (p4 &&& (7 : Int32))), .unset, .unset, .unset] [(.ref b180)]))
        refine EndsW.go (b := T190.setTop (mkF m 87 #[.val (.int p1), .val (.int p2), .val (.int p3), .val (.int p4), .val (.int c0), .val (.int c1), .val (.int c2), .val (.int (p4 &&& (7 : Int32))), .unset, .unset, .unset] [(.int c1), (.int (1 : Int32)), (.ref b180), (.ref b180)])) (fun t k => ?_) ?_
        · show Steps p.tables e below (T190.setTop (mkF m 83 #[.val (.int p1), .val (.int p2), .val (.int p3), .val (.int p4), .val (.int c0), .val (.int c1), .val (.int c2), .val (.int (p4 &&& (7 : Int32))), .unset, .unset, .unset] [(.ref b180)])) _
          refine XS.dup X190.here hx rfl (hb hby at_83) rfl rfl ?_
          show Steps p.tables e below (T190.setTop (mkF m 84 #[.val (.int p1), .val (.int p2), .val (.int p3), .val (.int p4), .val (.int c0), .val (.int c1), .val (.int c2), .val (.int (p4 &&& (7 : Int32))), .unset, .unset, .unset] [(.ref b180), (.ref b180)])) _
          refine XS.iconst X190.here hx rfl (hb hby at_84) ?_
          refine XS.iload X190.here hx rfl (hb hby at_85) rfl ?_
          exact k
        obtain ⟨cl199, Ar199, q199, S199, M199, H199, G199⟩ := id fa190
        have hin199 : ¬ ((1 : Int32) < 0 ∨ cl199.slots.size ≤ ((1 : Int32)).toNatClampNeg) := inb_of S199 ⟨by decide, by decide⟩
        obtain ⟨T199, h199, X199, e199, W199, st199⟩ := stC X190 hx hZ e190 Ar199 (j := (1 : Int32)) hin199 (g := (mkF m 87 #[.val (.int p1), .val (.int p2), .val (.int p3), .val (.int p4), .val (.int c0), .val (.int c1), .val (.int c2), .val (.int (p4 &&& (7 : Int32))), .unset, .unset, .unset] [(.int c1), (.int (1 : Int32)), (.ref b180), (.ref b180)])) rfl rfl (hb hby at_87)
        have fa199 := Arf.set (v := .int (nar .char c1)) Ar199 q199 S199 M199 H199 G199 (fits_nar_char c1) W199
        have f200 := Nat.le_trans f191 (Keep.of_wr W199).1
        have f201 := Nat.le_trans f192 (Keep.of_wr W199).1
        have f202 := f194.wr W199
        have f203 := f195.wr W199
        have f204 := f196.wr W199
        have f205 := f197.wr W199
        have f206 := f198.wr W199
        have N199 := Fr.snoc X199 N190 gn180
        refine EndsW.go st199 ?_
        show EndsW _ _ _ _ _ _ _ (T199.setTop (mkF m 88 #[.val (.int p1), .val (.int p2), .val (.int p3), .val (.int p4), .val (.int c0), .val (.int c1), .val (.int c2), .val (.int (p4 &&& (7 : Int32))), .unset, .unset, .unset] [(.ref b180)]))
        refine EndsW.go (b := T199.setTop (mkF m 92 #[.val (.int p1), .val (.int p2), .val (.int p3), .val (.int p4), .val (.int c0), .val (.int c1), .val (.int c2), .val (.int (p4 &&& (7 : Int32))), .val (.ref b180), .unset, .unset] [(.int c0)])) (fun t k => ?_) ?_
        · show Steps p.tables e below (T199.setTop (mkF m 88 #[.val (.int p1), .val (.int p2), .val (.int p3), .val (.int p4), .val (.int c0), .val (.int c1), .val (.int c2), .val (.int (p4 &&& (7 : Int32))), .unset, .unset, .unset] [(.ref b180)])) _
          refine XS.astore X199.here hx rfl (hb hby at_88) rfl rfl (l' := #[.val (.int p1), .val (.int p2), .val (.int p3), .val (.int p4), .val (.int c0), .val (.int c1), .val (.int c2), .val (.int (p4 &&& (7 : Int32))), .val (.ref b180), .unset, .unset]) rfl ?_
          refine XS.iload X199.here hx rfl (hb hby at_90) rfl ?_
          show Steps p.tables e below (T199.setTop (mkF m 92 #[.val (.int p1), .val (.int p2), .val (.int p3), .val (.int p4), .val (.int c0), .val (.int c1), .val (.int c2), .val (.int (p4 &&& (7 : Int32))), .val (.ref b180), .unset, .unset] [(.int c0)])) _
          exact k
        obtain ⟨_, _, ⟨T207, L207, kk207, nn207⟩, -, X207, ⟨Lc207, hQ207, l207, y207, z207⟩, st207⟩ := Jvm.LawKit.callS X199 hx (y := (⟨"com/example/lossfall/lossfall/model/CertificateClassIsValidNamePinLaw", "ok", "(C)Z"⟩ : MethodName)) hown (mvT hZ (own_w hw 2 rfl)) (mvT hZ (own_w hw 3 rfl)) (mvT hZ (own_w hw 4 rfl)) (mvT hZ (own_w hw 5 rfl)) (by decide) (backOf (W := 0) (rm1 l Z a0 hw [] c0 h199 n0 f200 hc0.1) hZ (own_w hw 5 rfl) (own_w hw 4 rfl) (by decide) (by decide)) (g := (mkF m 92 #[.val (.int p1), .val (.int p2), .val (.int p3), .val (.int p4), .val (.int c0), .val (.int c1), .val (.int c2), .val (.int (p4 &&& (7 : Int32))), .val (.ref b180), .unset, .unset] [(.int c0)])) rfl (by rw [hml]; rfl) (argsL := [(.int c0)]) (rest := []) (lenOf pd_18 rfl) rfl (by show 2 * 0 + _ ≤ _; exact Nat.le_of_eq rfl) (hb hby at_92) (fun _ _ => ⟨rfl, e199, (by decide : 1 + 0 ≤ _), (by decide : 2 + 0 ≤ _)⟩)
        dsimp only [Pt.U, Pt.locs, Pt.cells, Pt.slots] at X207 l207 y207 z207 st207 hQ207
        subst l207 y207 z207
        obtain ⟨rfl, Nq207, eq207⟩ := hQ207
        have N207 := Fr.app N199 Nq207
        refine EndsW.go st207 ?_
        show EndsW _ _ _ _ _ _ _ (T207.setTop (mkF m 95 #[.val (.int p1), .val (.int p2), .val (.int p3), .val (.int p4), .val (.int c0), .val (.int c1), .val (.int c2), .val (.int (p4 &&& (7 : Int32))), .val (.ref b180), .unset, .unset] [(.int (own_okc c0))]))
        by_cases hc95_208 : (own_okc c0) = (0 : Int32)
        · refine EndsW.go (b := T207.setTop (mkF m 110 #[.val (.int p1), .val (.int p2), .val (.int p3), .val (.int p4), .val (.int c0), .val (.int c1), .val (.int c2), .val (.int (p4 &&& (7 : Int32))), .val (.ref b180), .unset, .unset] [])) (fun t k => ?_) ?_
          · show Steps p.tables e below (T207.setTop (mkF m 95 #[.val (.int p1), .val (.int p2), .val (.int p3), .val (.int p4), .val (.int c0), .val (.int c1), .val (.int c2), .val (.int (p4 &&& (7 : Int32))), .val (.ref b180), .unset, .unset] [(.int (own_okc c0))])) _
            refine XS.ifYes X207.here hx rfl (pc0 := 95) (pc' := 110) rfl (hb hby at_95) rfl ((if0 _ _).trans (teq hc95_208).1) (by decide) (by decide) ?_
            show Steps p.tables e below (T207.setTop (mkF m 110 #[.val (.int p1), .val (.int p2), .val (.int p3), .val (.int p4), .val (.int c0), .val (.int c1), .val (.int c2), .val (.int (p4 &&& (7 : Int32))), .val (.ref b180), .unset, .unset] [])) _
            exact k
          refine EndsW.go (b := T207.setTop (mkF m 272 #[.val (.int p1), .val (.int p2), .val (.int p3), .val (.int p4), .val (.int c0), .val (.int c1), .val (.int c2), .val (.int (p4 &&& (7 : Int32))), .val (.ref b180), .val (.int (0 : Int32)), .unset] [])) (fun t k => ?_) ?_
          · show Steps p.tables e below (T207.setTop (mkF m 110 #[.val (.int p1), .val (.int p2), .val (.int p3), .val (.int p4), .val (.int c0), .val (.int c1), .val (.int c2), .val (.int (p4 &&& (7 : Int32))), .val (.ref b180), .unset, .unset] [])) _
            refine XS.iconst X207.here hx rfl (hb hby at_110) ?_
            refine XS.istore X207.here hx rfl (hb hby at_111) rfl (l' := #[.val (.int p1), .val (.int p2), .val (.int p3), .val (.int p4), .val (.int c0), .val (.int c1), .val (.int c2), .val (.int (p4 &&& (7 : Int32))), .val (.ref b180), .val (.int (0 : Int32)), .unset]) rfl ?_
            refine XS.goto X207.here hx rfl (pc0 := 113) (pc' := 272) rfl (hb hby at_113) (by decide) (by decide) ?_
            exact k
          have Gc209 : Arf Z h199 b180 k180 .char (2 : Int32) (own_cv (own_ch3 c0 c1 c2)) := own_a2 c2 fa199 hc0 hc1
          obtain ⟨T210, h210, X210, e210, E210, A210, D210, -, st210⟩ := newO X207 hx hZ hown (own_w hw 6 rfl) (own_w hw 7 rfl) (own_w hw 8 rfl) eq207 (g := (mkF m 272 #[.val (.int p1), .val (.int p2), .val (.int p3), .val (.int p4), .val (.int c0), .val (.int c1), .val (.int c2), .val (.int (p4 &&& (7 : Int32))), .val (.ref b180), .val (.int (0 : Int32)), .unset] [])) rfl (hb hby at_272) (by decide) (by decide)
          obtain ⟨b210, g210⟩ : ∃ z, z = h199.size := ⟨_, rfl⟩
          rw [← g210] at A210 D210 st210
          have gn210 : n0 ≤ b210 := Nat.le_trans f200 (Nat.le_of_eq g210.symm)
          have ne210_b180 : b180 ≠ b210 := Nat.ne_of_lt (Nat.lt_of_lt_of_le Gc209.lt (Nat.le_of_eq g210.symm))
          have f211 := Nat.le_trans f200 E210.1
          have f212 := Nat.le_trans f201 E210.1
          have f213 := f202.ext E210
          have f214 := f203.ext E210
          have f215 := f204.ext E210
          have f216 := f205.ext E210
          have f217 := f206.ext E210
          have f218 := Gc209.ext E210
          have f219 : Fld Z h210 b210 "java/lang/String" "coder" "B" (.int (0 : Int32)) := D210 (Or.inr (own_w hw 32 rfl)) (ty := .byte) (by decide)
          have f220 : Fld Z h210 b210 "java/lang/String" "value" "[B" .null := D210 (Or.inr (own_w hw 34 rfl)) (ty := (.array .byte)) (by decide)
          refine EndsW.go st210 ?_
          show EndsW _ _ _ _ _ _ _ (T210.setTop (mkF m 275 #[.val (.int p1), .val (.int p2), .val (.int p3), .val (.int p4), .val (.int c0), .val (.int c1), .val (.int c2), .val (.int (p4 &&& (7 : Int32))), .val (.ref b180), .val (.int (0 : Int32)), .unset] [(.ref b210)]))
          refine EndsW.go (b := T210.setTop (mkF m 278 #[.val (.int p1), .val (.int p2), .val (.int p3), .val (.int p4), .val (.int c0), .val (.int c1), .val (.int c2), .val (.int (p4 &&& (7 : Int32))), .val (.ref b180), .val (.int (0 : Int32)), .unset] [(.ref b180), (.ref b210), (.ref b210)])) (fun t k => ?_) ?_
          · show Steps p.tables e below (T210.setTop (mkF m 275 #[.val (.int p1), .val (.int p2), .val (.int p3), .val (.int p4), .val (.int c0), .val (.int c1), .val (.int c2), .val (.int (p4 &&& (7 : Int32))), .val (.ref b180), .val (.int (0 : Int32)), .unset] [(.ref b210)])) _
            refine XS.dup X210.here hx rfl (hb hby at_275) rfl rfl ?_
            show Steps p.tables e below (T210.setTop (mkF m 276 #[.val (.int p1), .val (.int p2), .val (.int p3), .val (.int p4), .val (.int c0), .val (.int c1), .val (.int c2), .val (.int (p4 &&& (7 : Int32))), .val (.ref b180), .val (.int (0 : Int32)), .unset] [(.ref b210), (.ref b210)])) _
            refine XS.aload X210.here hx rfl (hb hby at_276) rfl rfl ?_
            exact k
          obtain ⟨_, _, ⟨T221, L221, kk221, nn221⟩, -, X221, ⟨Lc221, hQ221, l221, y221, z221⟩, st221⟩ := X210.specialBack hx (y := (⟨"java/lang/String", "<init>", "([C)V"⟩ : MethodName)) rfl hown (mvT hZ (own_w hw 9 rfl)) (mvT hZ (own_w hw 10 rfl)) (mvT hZ (own_w hw 11 rfl)) (by decide) (backOf (W := 1) (rm2 l Z a0 hw [] b210 b180 cs fv k180 (2 : Int32) (own_ch3 c0 c1 c2) h210 n0 f211 ⟨f213, hcs, f214, hfv, f215, f216, f217⟩ A210 f220 f219 gn210 (Ne.symm ne210_b180) f218 (by decide) (by decide) (by decide) (own_ch3R c0 c1 c2 hc0 hc1 hc2)) hZ (own_w hw 11 rfl) (own_w hw 8 rfl) (by decide) (by decide)) (g := (mkF m 278 #[.val (.int p1), .val (.int p2), .val (.int p3), .val (.int p4), .val (.int c0), .val (.int c1), .val (.int c2), .val (.int (p4 &&& (7 : Int32))), .val (.ref b180), .val (.int (0 : Int32)), .unset] [(.ref b180), (.ref b210), (.ref b210)])) rfl (by rw [hml]; rfl) (Steps.refl _) (a := b210) (argsL := [(.ref b180)]) (rest := [(.ref b210)]) (lenOf pd_16 rfl) rfl (by show 2 * 0 + _ ≤ _; exact Nat.le_of_eq rfl) (hb hby at_278) (fun _ _ => ⟨rfl, e210, (by decide : 2 + 2 ≤ _), (by decide : 6 + 99 ≤ _)⟩)
          dsimp only [Pt.U, Pt.locs, Pt.cells, Pt.slots] at X221 l221 y221 z221 st221 hQ221
          subst l221 y221 z221
          obtain ⟨rfl, Nq221, K221, Ys221⟩ := hQ221
          have N221 := Fr.app N207 Nq221
          have f222 := Nat.le_trans f211 K221.1
          have f223 := Nat.le_trans f212 K221.1
          have f224 := own_sta_keep f213 K221 A210
          have f225 := own_sta_keep f214 K221 A210
          have f226 := own_sta_keep f215 K221 A210
          have f227 := own_sta_keep f216 K221 A210
          have f228 := own_sta_keep f217 K221 A210
          have f229 := f218.keep K221 (ninS ne210_b180 nin0)
          have f230 := A210.keep K221
          refine EndsW.go (fun t k => st221.trans k) ?_
          show EndsW _ _ _ _ _ _ _ (T221.setTop (mkF m 281 #[.val (.int p1), .val (.int p2), .val (.int p3), .val (.int p4), .val (.int c0), .val (.int c1), .val (.int c2), .val (.int (p4 &&& (7 : Int32))), .val (.ref b180), .val (.int (0 : Int32)), .unset] [(.ref b210)]))
          obtain ⟨_, _, ⟨T231, L231, kk231, nn231⟩, -, X231, ⟨Lc231, hQ231, l231, y231, z231⟩, st231⟩ := Jvm.LawKit.callS X221 hx (y := (⟨"com/example/lossfall/lossfall/model/CertificateClass", "isValidName", "(Ljava/lang/String;)Z"⟩ : MethodName)) hown (mvT hZ (own_w hw 35 rfl)) (mvT hZ (own_w hw 36 rfl)) (mvT hZ (own_w hw 37 rfl)) (mvT hZ (own_w hw 38 rfl)) (by decide) (backOf (W := 0) (rm8 l Z a0 hw [] b210 cs fv (2 : Int32) (own_ch3 c0 c1 c2) T221.heap n0 f222 ⟨f224, hcs, f225, hfv, f226, f227, f228⟩ Ys221 (by decide) (by decide) (own_ch3R c0 c1 c2 hc0 hc1 hc2) Ys221.1) hZ (own_w hw 38 rfl) (own_w hw 37 rfl) (by decide) (by decide)) (g := (mkF m 281 #[.val (.int p1), .val (.int p2), .val (.int p3), .val (.int p4), .val (.int c0), .val (.int c1), .val (.int c2), .val (.int (p4 &&& (7 : Int32))), .val (.ref b180), .val (.int (0 : Int32)), .unset] [(.ref b210)])) rfl (by rw [hml]; rfl) (argsL := [(.ref b210)]) (rest := []) (lenOf pd_17 rfl) rfl (by show 2 * 0 + _ ≤ _; exact Nat.le_of_eq rfl) (hb hby at_281) (fun _ _ => ⟨rfl, rfl, (by decide : 4 + 0 ≤ _), (by decide : 105 + 0 ≤ _)⟩)
          dsimp only [Pt.U, Pt.locs, Pt.cells, Pt.slots] at X231 l231 y231 z231 st231 hQ231
          subst l231 y231 z231
          obtain ⟨rfl, Nq231, eq231⟩ := hQ231
          have N231 := Fr.app N221 Nq231
          refine EndsW.go st231 ?_
          show EndsW _ _ _ _ _ _ _ (T231.setTop (mkF m 284 #[.val (.int p1), .val (.int p2), .val (.int p3), .val (.int p4), .val (.int c0), .val (.int c1), .val (.int c2), .val (.int (p4 &&& (7 : Int32))), .val (.ref b180), .val (.int (0 : Int32)), .unset] [(.int (own_val (2 : Int32) (own_ch3 c0 c1 c2)))]))
          refine EndsW.go (b := T231.setTop (mkF m 294 #[.val (.int p1), .val (.int p2), .val (.int p3), .val (.int p4), .val (.int c0), .val (.int c1), .val (.int c2), .val (.int (p4 &&& (7 : Int32))), .val (.ref b180), .val (.int (0 : Int32)), .unset] [(.int (1 : Int32))])) (fun t k => ?_) ?_
          · show Steps p.tables e below (T231.setTop (mkF m 284 #[.val (.int p1), .val (.int p2), .val (.int p3), .val (.int p4), .val (.int c0), .val (.int c1), .val (.int c2), .val (.int (p4 &&& (7 : Int32))), .val (.ref b180), .val (.int (0 : Int32)), .unset] [(.int (own_val (2 : Int32) (own_ch3 c0 c1 c2)))])) _
            refine XS.iload X231.here hx rfl (hb hby at_284) rfl ?_
            refine XS.icmpNo X231.here hx rfl (hb hby at_286) rfl (teq (own_vZero _ _ (by decide) (by decide) 0 (by decide) c0 rfl hc95_208)).2 ?_
            show Steps p.tables e below (T231.setTop (mkF m 289 #[.val (.int p1), .val (.int p2), .val (.int p3), .val (.int p4), .val (.int c0), .val (.int c1), .val (.int c2), .val (.int (p4 &&& (7 : Int32))), .val (.ref b180), .val (.int (0 : Int32)), .unset] [])) _
            refine XS.iconst X231.here hx rfl (hb hby at_289) ?_
            refine XS.goto X231.here hx rfl (pc0 := 290) (pc' := 294) rfl (hb hby at_290) (by decide) (by decide) ?_
            show Steps p.tables e below (T231.setTop (mkF m 294 #[.val (.int p1), .val (.int p2), .val (.int p3), .val (.int p4), .val (.int c0), .val (.int c1), .val (.int c2), .val (.int (p4 &&& (7 : Int32))), .val (.ref b180), .val (.int (0 : Int32)), .unset] [(.int (1 : Int32))])) _
            exact k
          refine EndsW.retN X231 hS0 (by rw [eq231]; exact f223) hx Bd.notSynchronized (t := .boolean) Bd.returns (by simp) (hb hby at_294) (by decide) (by decide) ?_
          show Q0 Z p1 p2 p3 p4 cs fv h0 n0 (some (.int (nar .boolean (1 : Int32)))) T231.heap _
          rw [eq231]
          exact ⟨rfl, N231⟩
        · refine EndsW.go (b := T207.setTop (mkF m 98 #[.val (.int p1), .val (.int p2), .val (.int p3), .val (.int p4), .val (.int c0), .val (.int c1), .val (.int c2), .val (.int (p4 &&& (7 : Int32))), .val (.ref b180), .unset, .unset] [])) (fun t k => ?_) ?_
          · show Steps p.tables e below (T207.setTop (mkF m 95 #[.val (.int p1), .val (.int p2), .val (.int p3), .val (.int p4), .val (.int c0), .val (.int c1), .val (.int c2), .val (.int (p4 &&& (7 : Int32))), .val (.ref b180), .unset, .unset] [(.int (own_okc c0))])) _
            refine XS.ifNo X207.here hx rfl (hb hby at_95) rfl ((if0 _ _).trans (feq hc95_208).1) ?_
            show Steps p.tables e below (T207.setTop (mkF m 98 #[.val (.int p1), .val (.int p2), .val (.int p3), .val (.int p4), .val (.int c0), .val (.int c1), .val (.int c2), .val (.int (p4 &&& (7 : Int32))), .val (.ref b180), .unset, .unset] [])) _
            exact k
          refine EndsW.go (b := T207.setTop (mkF m 100 #[.val (.int p1), .val (.int p2), .val (.int p3), .val (.int p4), .val (.int c0), .val (.int c1), .val (.int c2), .val (.int (p4 &&& (7 : Int32))), .val (.ref b180), .unset, .unset] [(.int c1)])) (fun t k => ?_) ?_
          · show Steps p.tables e below (T207.setTop (mkF m 98 #[.val (.int p1), .val (.int p2), .val (.int p3), .val (.int p4), .val (.int c0), .val (.int c1), .val (.int c2), .val (.int (p4 &&& (7 : Int32))), .val (.ref b180), .unset, .unset] [])) _
            refine XS.iload X207.here hx rfl (hb hby at_98) rfl ?_
            exact k
          obtain ⟨_, _, ⟨T232, L232, kk232, nn232⟩, -, X232, ⟨Lc232, hQ232, l232, y232, z232⟩, st232⟩ := Jvm.LawKit.callS X207 hx (y := (⟨"com/example/lossfall/lossfall/model/CertificateClassIsValidNamePinLaw", "ok", "(C)Z"⟩ : MethodName)) hown (mvT hZ (own_w hw 2 rfl)) (mvT hZ (own_w hw 3 rfl)) (mvT hZ (own_w hw 4 rfl)) (mvT hZ (own_w hw 5 rfl)) (by decide) (backOf (W := 0) (rm1 l Z a0 hw [] c1 h199 n0 f200 hc1.1) hZ (own_w hw 5 rfl) (own_w hw 4 rfl) (by decide) (by decide)) (g := (mkF m 100 #[.val (.int p1), .val (.int p2), .val (.int p3), .val (.int p4), .val (.int c0), .val (.int c1), .val (.int c2), .val (.int (p4 &&& (7 : Int32))), .val (.ref b180), .unset, .unset] [(.int c1)])) rfl (by rw [hml]; rfl) (argsL := [(.int c1)]) (rest := []) (lenOf pd_18 rfl) rfl (by show 2 * 0 + _ ≤ _; exact Nat.le_of_eq rfl) (hb hby at_100) (fun _ _ => ⟨rfl, eq207, (by decide : 1 + 0 ≤ _), (by decide : 2 + 0 ≤ _)⟩)
          dsimp only [Pt.U, Pt.locs, Pt.cells, Pt.slots] at X232 l232 y232 z232 st232 hQ232
          subst l232 y232 z232
          obtain ⟨rfl, Nq232, eq232⟩ := hQ232
          have N232 := Fr.app N207 Nq232
          refine EndsW.go st232 ?_
          show EndsW _ _ _ _ _ _ _ (T232.setTop (mkF m 103 #[.val (.int p1), .val (.int p2), .val (.int p3), .val (.int p4), .val (.int c0), .val (.int c1), .val (.int c2), .val (.int (p4 &&& (7 : Int32))), .val (.ref b180), .unset, .unset] [(.int (own_okc c1))]))
          by_cases hc103_233 : (own_okc c1) = (0 : Int32)
          · refine EndsW.go (b := T232.setTop (mkF m 110 #[.val (.int p1), .val (.int p2), .val (.int p3), .val (.int p4), .val (.int c0), .val (.int c1), .val (.int c2), .val (.int (p4 &&& (7 : Int32))), .val (.ref b180), .unset, .unset] [])) (fun t k => ?_) ?_
            · show Steps p.tables e below (T232.setTop (mkF m 103 #[.val (.int p1), .val (.int p2), .val (.int p3), .val (.int p4), .val (.int c0), .val (.int c1), .val (.int c2), .val (.int (p4 &&& (7 : Int32))), .val (.ref b180), .unset, .unset] [(.int (own_okc c1))])) _
              refine XS.ifYes X232.here hx rfl (pc0 := 103) (pc' := 110) rfl (hb hby at_103) rfl ((if0 _ _).trans (teq hc103_233).1) (by decide) (by decide) ?_
              show Steps p.tables e below (T232.setTop (mkF m 110 #[.val (.int p1), .val (.int p2), .val (.int p3), .val (.int p4), .val (.int c0), .val (.int c1), .val (.int c2), .val (.int (p4 &&& (7 : Int32))), .val (.ref b180), .unset, .unset] [])) _
              exact k
            refine EndsW.go (b := T232.setTop (mkF m 272 #[.val (.int p1), .val (.int p2), .val (.int p3), .val (.int p4), .val (.int c0), .val (.int c1), .val (.int c2), .val (.int (p4 &&& (7 : Int32))), .val (.ref b180), .val (.int (0 : Int32)), .unset] [])) (fun t k => ?_) ?_
            · show Steps p.tables e below (T232.setTop (mkF m 110 #[.val (.int p1), .val (.int p2), .val (.int p3), .val (.int p4), .val (.int c0), .val (.int c1), .val (.int c2), .val (.int (p4 &&& (7 : Int32))), .val (.ref b180), .unset, .unset] [])) _
              refine XS.iconst X232.here hx rfl (hb hby at_110) ?_
              refine XS.istore X232.here hx rfl (hb hby at_111) rfl (l' := #[.val (.int p1), .val (.int p2), .val (.int p3), .val (.int p4), .val (.int c0), .val (.int c1), .val (.int c2), .val (.int (p4 &&& (7 : Int32))), .val (.ref b180), .val (.int (0 : Int32)), .unset]) rfl ?_
              refine XS.goto X232.here hx rfl (pc0 := 113) (pc' := 272) rfl (hb hby at_113) (by decide) (by decide) ?_
              show Steps p.tables e below (T232.setTop (mkF m 272 #[.val (.int p1), .val (.int p2), .val (.int p3), .val (.int p4), .val (.int c0), .val (.int c1), .val (.int c2), .val (.int (p4 &&& (7 : Int32))), .val (.ref b180), .val (.int (0 : Int32)), .unset] [])) _
              exact k
            have Gc234 : Arf Z h199 b180 k180 .char (2 : Int32) (own_cv (own_ch3 c0 c1 c2)) := own_a2 c2 fa199 hc0 hc1
            obtain ⟨T235, h235, X235, e235, E235, A235, D235, -, st235⟩ := newO X232 hx hZ hown (own_w hw 6 rfl) (own_w hw 7 rfl) (own_w hw 8 rfl) eq232 (g := (mkF m 272 #[.val (.int p1), .val (.int p2), .val (.int p3), .val (.int p4), .val (.int c0), .val (.int c1), .val (.int c2), .val (.int (p4 &&& (7 : Int32))), .val (.ref b180), .val (.int (0 : Int32)), .unset] [])) rfl (hb hby at_272) (by decide) (by decide)
            obtain ⟨b235, g235⟩ : ∃ z, z = h199.size := ⟨_, rfl⟩
            rw [← g235] at A235 D235 st235
            have gn235 : n0 ≤ b235 := Nat.le_trans f200 (Nat.le_of_eq g235.symm)
            have ne235_b180 : b180 ≠ b235 := Nat.ne_of_lt (Nat.lt_of_lt_of_le Gc234.lt (Nat.le_of_eq g235.symm))
            have f236 := Nat.le_trans f200 E235.1
            have f237 := Nat.le_trans f201 E235.1
            have f238 := f202.ext E235
            have f239 := f203.ext E235
            have f240 := f204.ext E235
            have f241 := f205.ext E235
            have f242 := f206.ext E235
            have f243 := Gc234.ext E235
            have f244 : Fld Z h235 b235 "java/lang/String" "coder" "B" (.int (0 : Int32)) := D235 (Or.inr (own_w hw 32 rfl)) (ty := .byte) (by decide)
            have f245 : Fld Z h235 b235 "java/lang/String" "value" "[B" .null := D235 (Or.inr (own_w hw 34 rfl)) (ty := (.array .byte)) (by decide)
            refine EndsW.go st235 ?_
            show EndsW _ _ _ _ _ _ _ (T235.setTop (mkF m 275 #[.val (.int p1), .val (.int p2), .val (.int p3), .val (.int p4), .val (.int c0), .val (.int c1), .val (.int c2), .val (.int (p4 &&& (7 : Int32))), .val (.ref b180), .val (.int (0 : Int32)), .unset] [(.ref b235)]))
            refine EndsW.go (b := T235.setTop (mkF m 278 #[.val (.int p1), .val (.int p2), .val (.int p3), .val (.int p4), .val (.int c0), .val (.int c1), .val (.int c2), .val (.int (p4 &&& (7 : Int32))), .val (.ref b180), .val (.int (0 : Int32)), .unset] [(.ref b180), (.ref b235), (.ref b235)])) (fun t k => ?_) ?_
            · show Steps p.tables e below (T235.setTop (mkF m 275 #[.val (.int p1), .val (.int p2), .val (.int p3), .val (.int p4), .val (.int c0), .val (.int c1), .val (.int c2), .val (.int (p4 &&& (7 : Int32))), .val (.ref b180), .val (.int (0 : Int32)), .unset] [(.ref b235)])) _
              refine XS.dup X235.here hx rfl (hb hby at_275) rfl rfl ?_
              refine XS.aload X235.here hx rfl (hb hby at_276) rfl rfl ?_
              exact k
            obtain ⟨_, _, ⟨T246, L246, kk246, nn246⟩, -, X246, ⟨Lc246, hQ246, l246, y246, z246⟩, st246⟩ := X235.specialBack hx (y := (⟨"java/lang/String", "<init>", "([C)V"⟩ : MethodName)) rfl hown (mvT hZ (own_w hw 9 rfl)) (mvT hZ (own_w hw 10 rfl)) (mvT hZ (own_w hw 11 rfl)) (by decide) (backOf (W := 1) (rm2 l Z a0 hw [] b235 b180 cs fv k180 (2 : Int32) (own_ch3 c0 c1 c2) h235 n0 f236 ⟨f238, hcs, f239, hfv, f240, f241, f242⟩ A235 f245 f244 gn235 (Ne.symm ne235_b180) f243 (by decide) (by decide) (by decide) (own_ch3R c0 c1 c2 hc0 hc1 hc2)) hZ (own_w hw 11 rfl) (own_w hw 8 rfl) (by decide) (by decide)) (g := (mkF m 278 #[.val (.int p1), .val (.int p2), .val (.int p3), .val (.int p4), .val (.int c0), .val (.int c1), .val (.int c2), .val (.int (p4 &&& (7 : Int32))), .val (.ref b180), .val (.int (0 : Int32)), .unset] [(.ref b180), (.ref b235), (.ref b235)])) rfl (by rw [hml]; rfl) (Steps.refl _) (a := b235) (argsL := [(.ref b180)]) (rest := [(.ref b235)]) (lenOf pd_16 rfl) rfl (by show 2 * 0 + _ ≤ _; exact Nat.le_of_eq rfl) (hb hby at_278) (fun _ _ => ⟨rfl, e235, (by decide : 2 + 2 ≤ _), (by decide : 6 + 99 ≤ _)⟩)
            dsimp only [Pt.U, Pt.locs, Pt.cells, Pt.slots] at X246 l246 y246 z246 st246 hQ246
            subst l246 y246 z246
            obtain ⟨rfl, Nq246, K246, Ys246⟩ := hQ246
            have N246 := Fr.app N232 Nq246
            have f247 := Nat.le_trans f236 K246.1
            have f248 := Nat.le_trans f237 K246.1
            have f249 := own_sta_keep f238 K246 A235
            have f250 := own_sta_keep f239 K246 A235
            have f251 := own_sta_keep f240 K246 A235
            have f252 := own_sta_keep f241 K246 A235
            have f253 := own_sta_keep f242 K246 A235
            have f254 := f243.keep K246 (ninS ne235_b180 nin0)
            have f255 := A235.keep K246
            refine EndsW.go (fun t k => st246.trans k) ?_
            show EndsW _ _ _ _ _ _ _ (T246.setTop (mkF m 281 #[.val (.int p1), .val (.int p2), .val (.int p3), .val (.int p4), .val (.int c0), .val (.int c1), .val (.int c2), .val (.int (p4 &&& (7 : Int32))), .val (.ref b180), .val (.int (0 : Int32)), .unset] [(.ref b235)]))
            obtain ⟨_, _, ⟨T256, L256, kk256, nn256⟩, -, X256, ⟨Lc256, hQ256, l256, y256, z256⟩, st256⟩ := Jvm.LawKit.callS X246 hx (y := (⟨"com/example/lossfall/lossfall/model/CertificateClass", "isValidName", "(Ljava/lang/String;)Z"⟩ : MethodName)) hown (mvT hZ (own_w hw 35 rfl)) (mvT hZ (own_w hw 36 rfl)) (mvT hZ (own_w hw 37 rfl)) (mvT hZ (own_w hw 38 rfl)) (by decide) (backOf (W := 0) (rm8 l Z a0 hw [] b235 cs fv (2 : Int32) (own_ch3 c0 c1 c2) T246.heap n0 f247 ⟨f249, hcs, f250, hfv, f251, f252, f253⟩ Ys246 (by decide) (by decide) (own_ch3R c0 c1 c2 hc0 hc1 hc2) Ys246.1) hZ (own_w hw 38 rfl) (own_w hw 37 rfl) (by decide) (by decide)) (g := (mkF m 281 #[.val (.int p1), .val (.int p2), .val (.int p3), .val (.int p4), .val (.int c0), .val (.int c1), .val (.int c2), .val (.int (p4 &&& (7 : Int32))), .val (.ref b180), .val (.int (0 : Int32)), .unset] [(.ref b235)])) rfl (by rw [hml]; rfl) (argsL := [(.ref b235)]) (rest := []) (lenOf pd_17 rfl) rfl (by show 2 * 0 + _ ≤ _; exact Nat.le_of_eq rfl) (hb hby at_281) (fun _ _ => ⟨rfl, rfl, (by decide : 4 + 0 ≤ _), (by decide : 105 + 0 ≤ _)⟩)
            dsimp only [Pt.U, Pt.locs, Pt.cells, Pt.slots] at X256 l256 y256 z256 st256 hQ256
            subst l256 y256 z256
            obtain ⟨rfl, Nq256, eq256⟩ := hQ256
            have N256 := Fr.app N246 Nq256
            refine EndsW.go st256 ?_
            show EndsW _ _ _ _ _ _ _ (T256.setTop (mkF m 284 #[.val (.int p1), .val (.int p2), .val (.int p3), .val (.int p4), .val (.int c0), .val (.int c1), .val (.int c2), .val (.int (p4 &&& (7 : Int32))), .val (.ref b180), .val (.int (0 : Int32)), .unset] [(.int (own_val (2 : Int32) (own_ch3 c0 c1 c2)))]))
            refine EndsW.go (b := T256.setTop (mkF m 294 #[.val (.int p1), .val (.int p2), .val (.int p3), .val (.int p4), .val (.int c0), .val (.int c1), .val (.int c2), .val (.int (p4 &&& (7 : Int32))), .val (.ref b180), .val (.int (0 : Int32)), .unset] [(.int (1 : Int32))])) (fun t k => ?_) ?_
            · show Steps p.tables e below (T256.setTop (mkF m 284 #[.val (.int p1), .val (.int p2), .val (.int p3), .val (.int p4), .val (.int c0), .val (.int c1), .val (.int c2), .val (.int (p4 &&& (7 : Int32))), .val (.ref b180), .val (.int (0 : Int32)), .unset] [(.int (own_val (2 : Int32) (own_ch3 c0 c1 c2)))])) _
              refine XS.iload X256.here hx rfl (hb hby at_284) rfl ?_
              refine XS.icmpNo X256.here hx rfl (hb hby at_286) rfl (teq (own_vZero _ _ (by decide) (by decide) 1 (by decide) c1 rfl hc103_233)).2 ?_
              show Steps p.tables e below (T256.setTop (mkF m 289 #[.val (.int p1), .val (.int p2), .val (.int p3), .val (.int p4), .val (.int c0), .val (.int c1), .val (.int c2), .val (.int (p4 &&& (7 : Int32))), .val (.ref b180), .val (.int (0 : Int32)), .unset] [])) _
              refine XS.iconst X256.here hx rfl (hb hby at_289) ?_
              show Steps p.tables e below (T256.setTop (mkF m 290 #[.val (.int p1), .val (.int p2), .val (.int p3), .val (.int p4), .val (.int c0), .val (.int c1), .val (.int c2), .val (.int (p4 &&& (7 : Int32))), .val (.ref b180), .val (.int (0 : Int32)), .unset] [(.int (1 : Int32))])) _
              refine XS.goto X256.here hx rfl (pc0 := 290) (pc' := 294) rfl (hb hby at_290) (by decide) (by decide) ?_
              exact k
            refine EndsW.retN X256 hS0 (by rw [eq256]; exact f248) hx Bd.notSynchronized (t := .boolean) Bd.returns (by simp) (hb hby at_294) (by decide) (by decide) ?_
            show Q0 Z p1 p2 p3 p4 cs fv h0 n0 (some (.int (nar .boolean (1 : Int32)))) T256.heap _
            rw [eq256]
            exact ⟨rfl, N256⟩
          · refine EndsW.go (b := T232.setTop (mkF m 106 #[.val (.int p1), .val (.int p2), .val (.int p3), .val (.int p4), .val (.int c0), .val (.int c1), .val (.int c2), .val (.int (p4 &&& (7 : Int32))), .val (.ref b180), .unset, .unset] [])) (fun t k => ?_) ?_
            · show Steps p.tables e below (T232.setTop (mkF m 103 #[.val (.int p1), .val (.int p2), .val (.int p3), .val (.int p4), .val (.int c0), .val (.int c1), .val (.int c2), .val (.int (p4 &&& (7 : Int32))), .val (.ref b180), .unset, .unset] [(.int (own_okc c1))])) _
              refine XS.ifNo X232.here hx rfl (hb hby at_103) rfl ((if0 _ _).trans (feq hc103_233).1) ?_
              show Steps p.tables e below (T232.setTop (mkF m 106 #[.val (.int p1), .val (.int p2), .val (.int p3), .val (.int p4), .val (.int c0), .val (.int c1), .val (.int c2), .val (.int (p4 &&& (7 : Int32))), .val (.ref b180), .unset, .unset] [])) _
              exact k
            refine EndsW.go (b := T232.setTop (mkF m 272 #[.val (.int p1), .val (.int p2), .val (.int p3), .val (.int p4), .val (.int c0), .val (.int c1), .val (.int c2), .val (.int (p4 &&& (7 : Int32))), .val (.ref b180), .val (.int (1 : Int32)), .unset] [])) (fun t k => ?_) ?_
            · show Steps p.tables e below (T232.setTop (mkF m 106 #[.val (.int p1), .val (.int p2), .val (.int p3), .val (.int p4), .val (.int c0), .val (.int c1), .val (.int c2), .val (.int (p4 &&& (7 : Int32))), .val (.ref b180), .unset, .unset] [])) _
              refine XS.iconst X232.here hx rfl (hb hby at_106) ?_
              refine XS.goto X232.here hx rfl (pc0 := 107) (pc' := 111) rfl (hb hby at_107) (by decide) (by decide) ?_
              refine XS.istore X232.here hx rfl (hb hby at_111) rfl (l' := #[.val (.int p1), .val (.int p2), .val (.int p3), .val (.int p4), .val (.int c0), .val (.int c1), .val (.int c2), .val (.int (p4 &&& (7 : Int32))), .val (.ref b180), .val (.int (1 : Int32)), .unset]) rfl ?_
              show Steps p.tables e below (T232.setTop (mkF m 113 #[.val (.int p1), .val (.int p2), .val (.int p3), .val (.int p4), .val (.int c0), .val (.int c1), .val (.int c2), .val (.int (p4 &&& (7 : Int32))), .val (.ref b180), .val (.int (1 : Int32)), .unset] [])) _
              refine XS.goto X232.here hx rfl (pc0 := 113) (pc' := 272) rfl (hb hby at_113) (by decide) (by decide) ?_
              exact k
            have Gc257 : Arf Z h199 b180 k180 .char (2 : Int32) (own_cv (own_ch3 c0 c1 c2)) := own_a2 c2 fa199 hc0 hc1
            obtain ⟨T258, h258, X258, e258, E258, A258, D258, -, st258⟩ := newO X232 hx hZ hown (own_w hw 6 rfl) (own_w hw 7 rfl) (own_w hw 8 rfl) eq232 (g := (mkF m 272 #[.val (.int p1), .val (.int p2), .val (.int p3), .val (.int p4), .val (.int c0), .val (.int c1), .val (.int c2), .val (.int (p4 &&& (7 : Int32))), .val (.ref b180), .val (.int (1 : Int32)), .unset] [])) rfl (hb hby at_272) (by decide) (by decide)
            obtain ⟨b258, g258⟩ : ∃ z, z = h199.size := ⟨_, rfl⟩
            rw [← g258] at A258 D258 st258
            have gn258 : n0 ≤ b258 := Nat.le_trans f200 (Nat.le_of_eq g258.symm)
            have ne258_b180 : b180 ≠ b258 := Nat.ne_of_lt (Nat.lt_of_lt_of_le Gc257.lt (Nat.le_of_eq g258.symm))
            have f259 := Nat.le_trans f200 E258.1
            have f260 := Nat.le_trans f201 E258.1
            have f261 := f202.ext E258
            have f262 := f203.ext E258
            have f263 := f204.ext E258
            have f264 := f205.ext E258
            have f265 := f206.ext E258
            have f266 := Gc257.ext E258
            have f267 : Fld Z h258 b258 "java/lang/String" "coder" "B" (.int (0 : Int32)) := D258 (Or.inr (own_w hw 32 rfl)) (ty := .byte) (by decide)
            have f268 : Fld Z h258 b258 "java/lang/String" "value" "[B" .null := D258 (Or.inr (own_w hw 34 rfl)) (ty := (.array .byte)) (by decide)
            refine EndsW.go st258 ?_
            show EndsW _ _ _ _ _ _ _ (T258.setTop (mkF m 275 #[.val (.int p1), .val (.int p2), .val (.int p3), .val (.int p4), .val (.int c0), .val (.int c1), .val (.int c2), .val (.int (p4 &&& (7 : Int32))), .val (.ref b180), .val (.int (1 : Int32)), .unset] [(.ref b258)]))
            refine EndsW.go (b := T258.setTop (mkF m 278 #[.val (.int p1), .val (.int p2), .val (.int p3), .val (.int p4), .val (.int c0), .val (.int c1), .val (.int c2), .val (.int (p4 &&& (7 : Int32))), .val (.ref b180), .val (.int (1 : Int32)), .unset] [(.ref b180), (.ref b258), (.ref b258)])) (fun t k => ?_) ?_
            · show Steps p.tables e below (T258.setTop (mkF m 275 #[.val (.int p1), .val (.int p2), .val (.int p3), .val (.int p4), .val (.int c0), .val (.int c1), .val (.int c2), .val (.int (p4 &&& (7 : Int32))), .val (.ref b180), .val (.int (1 : Int32)), .unset] [(.ref b258)])) _
              refine XS.dup X258.here hx rfl (hb hby at_275) rfl rfl ?_
              refine XS.aload X258.here hx rfl (hb hby at_276) rfl rfl ?_
              exact k
            obtain ⟨_, _, ⟨T269, L269, kk269, nn269⟩, -, X269, ⟨Lc269, hQ269, l269, y269, z269⟩, st269⟩ := X258.specialBack hx (y := (⟨"java/lang/String", "<init>", "([C)V"⟩ : MethodName)) rfl hown (mvT hZ (own_w hw 9 rfl)) (mvT hZ (own_w hw 10 rfl)) (mvT hZ (own_w hw 11 rfl)) (by decide) (backOf (W := 1) (rm2 l Z a0 hw [] b258 b180 cs fv k180 (2 : Int32) (own_ch3 c0 c1 c2) h258 n0 f259 ⟨f261, hcs, f262, hfv, f263, f264, f265⟩ A258 f268 f267 gn258 (Ne.symm ne258_b180) f266 (by decide) (by decide) (by decide) (own_ch3R c0 c1 c2 hc0 hc1 hc2)) hZ (own_w hw 11 rfl) (own_w hw 8 rfl) (by decide) (by decide)) (g := (mkF m 278 #[.val (.int p1), .val (.int p2), .val (.int p3), .val (.int p4), .val (.int c0), .val (.int c1), .val (.int c2), .val (.int (p4 &&& (7 : Int32))), .val (.ref b180), .val (.int (1 : Int32)), .unset] [(.ref b180), (.ref b258), (.ref b258)])) rfl (by rw [hml]; rfl) (Steps.refl _) (a := b258) (argsL := [(.ref b180)]) (rest := [(.ref b258)]) (lenOf pd_16 rfl) rfl (by show 2 * 0 + _ ≤ _; exact Nat.le_of_eq rfl) (hb hby at_278) (fun _ _ => ⟨rfl, e258, (by decide : 2 + 2 ≤ _), (by decide : 6 + 99 ≤ _)⟩)
            dsimp only [Pt.U, Pt.locs, Pt.cells, Pt.slots] at X269 l269 y269 z269 st269 hQ269
            subst l269 y269 z269
            obtain ⟨rfl, Nq269, K269, Ys269⟩ := hQ269
            have N269 := Fr.app N232 Nq269
            have f270 := Nat.le_trans f259 K269.1
            have f271 := Nat.le_trans f260 K269.1
            have f272 := own_sta_keep f261 K269 A258
            have f273 := own_sta_keep f262 K269 A258
            have f274 := own_sta_keep f263 K269 A258
            have f275 := own_sta_keep f264 K269 A258
            have f276 := own_sta_keep f265 K269 A258
            have f277 := f266.keep K269 (ninS ne258_b180 nin0)
            have f278 := A258.keep K269
            refine EndsW.go (fun t k => st269.trans k) ?_
            show EndsW _ _ _ _ _ _ _ (T269.setTop (mkF m 281 #[.val (.int p1), .val (.int p2), .val (.int p3), .val (.int p4), .val (.int c0), .val (.int c1), .val (.int c2), .val (.int (p4 &&& (7 : Int32))), .val (.ref b180), .val (.int (1 : Int32)), .unset] [(.ref b258)]))
            obtain ⟨_, _, ⟨T279, L279, kk279, nn279⟩, -, X279, ⟨Lc279, hQ279, l279, y279, z279⟩, st279⟩ := Jvm.LawKit.callS X269 hx (y := (⟨"com/example/lossfall/lossfall/model/CertificateClass", "isValidName", "(Ljava/lang/String;)Z"⟩ : MethodName)) hown (mvT hZ (own_w hw 35 rfl)) (mvT hZ (own_w hw 36 rfl)) (mvT hZ (own_w hw 37 rfl)) (mvT hZ (own_w hw 38 rfl)) (by decide) (backOf (W := 0) (rm8 l Z a0 hw [] b258 cs fv (2 : Int32) (own_ch3 c0 c1 c2) T269.heap n0 f270 ⟨f272, hcs, f273, hfv, f274, f275, f276⟩ Ys269 (by decide) (by decide) (own_ch3R c0 c1 c2 hc0 hc1 hc2) Ys269.1) hZ (own_w hw 38 rfl) (own_w hw 37 rfl) (by decide) (by decide)) (g := (mkF m 281 #[.val (.int p1), .val (.int p2), .val (.int p3), .val (.int p4), .val (.int c0), .val (.int c1), .val (.int c2), .val (.int (p4 &&& (7 : Int32))), .val (.ref b180), .val (.int (1 : Int32)), .unset] [(.ref b258)])) rfl (by rw [hml]; rfl) (argsL := [(.ref b258)]) (rest := []) (lenOf pd_17 rfl) rfl (by show 2 * 0 + _ ≤ _; exact Nat.le_of_eq rfl) (hb hby at_281) (fun _ _ => ⟨rfl, rfl, (by decide : 4 + 0 ≤ _), (by decide : 105 + 0 ≤ _)⟩)
            dsimp only [Pt.U, Pt.locs, Pt.cells, Pt.slots] at X279 l279 y279 z279 st279 hQ279
            subst l279 y279 z279
            obtain ⟨rfl, Nq279, eq279⟩ := hQ279
            have N279 := Fr.app N269 Nq279
            refine EndsW.go st279 ?_
            show EndsW _ _ _ _ _ _ _ (T279.setTop (mkF m 284 #[.val (.int p1), .val (.int p2), .val (.int p3), .val (.int p4), .val (.int c0), .val (.int c1), .val (.int c2), .val (.int (p4 &&& (7 : Int32))), .val (.ref b180), .val (.int (1 : Int32)), .unset] [(.int (own_val (2 : Int32) (own_ch3 c0 c1 c2)))]))
            refine EndsW.go (b := T279.setTop (mkF m 294 #[.val (.int p1), .val (.int p2), .val (.int p3), .val (.int p4), .val (.int c0), .val (.int c1), .val (.int c2), .val (.int (p4 &&& (7 : Int32))), .val (.ref b180), .val (.int (1 : Int32)), .unset] [(.int (1 : Int32))])) (fun t k => ?_) ?_
            · show Steps p.tables e below (T279.setTop (mkF m 284 #[.val (.int p1), .val (.int p2), .val (.int p3), .val (.int p4), .val (.int c0), .val (.int c1), .val (.int c2), .val (.int (p4 &&& (7 : Int32))), .val (.ref b180), .val (.int (1 : Int32)), .unset] [(.int (own_val (2 : Int32) (own_ch3 c0 c1 c2)))])) _
              refine XS.iload X279.here hx rfl (hb hby at_284) rfl ?_
              show Steps p.tables e below (T279.setTop (mkF m 286 #[.val (.int p1), .val (.int p2), .val (.int p3), .val (.int p4), .val (.int c0), .val (.int c1), .val (.int c2), .val (.int (p4 &&& (7 : Int32))), .val (.ref b180), .val (.int (1 : Int32)), .unset] [(.int (1 : Int32)), (.int (own_val (2 : Int32) (own_ch3 c0 c1 c2)))])) _
              refine XS.icmpNo X279.here hx rfl (hb hby at_286) rfl (teq (own_vOne (2 : Int32) (own_ch3 c0 c1 c2) (by decide) (by decide) (fun j hj => own_v3 c0 c1 c2 j (own_okn _ hc95_208) (Or.inl (own_okn _ hc103_233)) (Or.inr hj)))).2 ?_
              show Steps p.tables e below (T279.setTop (mkF m 289 #[.val (.int p1), .val (.int p2), .val (.int p3), .val (.int p4), .val (.int c0), .val (.int c1), .val (.int c2), .val (.int (p4 &&& (7 : Int32))), .val (.ref b180), .val (.int (1 : Int32)), .unset] [])) _
              refine XS.iconst X279.here hx rfl (hb hby at_289) ?_
              refine XS.goto X279.here hx rfl (pc0 := 290) (pc' := 294) rfl (hb hby at_290) (by decide) (by decide) ?_
              exact k
            refine EndsW.retN X279 hS0 (by rw [eq279]; exact f271) hx Bd.notSynchronized (t := .boolean) Bd.returns (by simp) (hb hby at_294) (by decide) (by decide) ?_
            show Q0 Z p1 p2 p3 p4 cs fv h0 n0 (some (.int (nar .boolean (1 : Int32)))) T279.heap _
            rw [eq279]
            exact ⟨rfl, N279⟩
      · refine EndsW.go (b := s₁.setTop (mkF m 116 #[.val (.int p1), .val (.int p2), .val (.int p3), .val (.int p4), .val (.int c0), .val (.int c1), .val (.int c2), .val (.int (p4 &&& (7 : Int32))), .unset, .unset, .unset] [])) (fun t k => ?_) ?_
        · show Steps p.tables e below (s₁.setTop (mkF m 72 #[.val (.int p1), .val (.int p2), .val (.int p3), .val (.int p4), .val (.int c0), .val (.int c1), .val (.int c2), .val (.int (p4 &&& (7 : Int32))), .unset, .unset, .unset] [(.int (2 : Int32)), (.int (p4 &&& (7 : Int32)))])) _
          refine XS.icmpYes X0.here hx rfl (pc0 := 72) (pc' := 116) rfl (hb hby at_72) rfl (feq hc72_179).2 (by decide) (by decide) ?_
          show Steps p.tables e below (s₁.setTop (mkF m 116 #[.val (.int p1), .val (.int p2), .val (.int p3), .val (.int p4), .val (.int c0), .val (.int c1), .val (.int c2), .val (.int (p4 &&& (7 : Int32))), .unset, .unset, .unset] [])) _
          exact k
        refine EndsW.go (b := s₁.setTop (mkF m 119 #[.val (.int p1), .val (.int p2), .val (.int p3), .val (.int p4), .val (.int c0), .val (.int c1), .val (.int c2), .val (.int (p4 &&& (7 : Int32))), .unset, .unset, .unset] [(.int (3 : Int32)), (.int (p4 &&& (7 : Int32)))])) (fun t k => ?_) ?_
        · show Steps p.tables e below (s₁.setTop (mkF m 116 #[.val (.int p1), .val (.int p2), .val (.int p3), .val (.int p4), .val (.int c0), .val (.int c1), .val (.int c2), .val (.int (p4 &&& (7 : Int32))), .unset, .unset, .unset] [])) _
          refine XS.iload X0.here hx rfl (hb hby at_116) rfl ?_
          refine XS.iconst X0.here hx rfl (hb hby at_118) ?_
          show Steps p.tables e below (s₁.setTop (mkF m 119 #[.val (.int p1), .val (.int p2), .val (.int p3), .val (.int p4), .val (.int c0), .val (.int c1), .val (.int c2), .val (.int (p4 &&& (7 : Int32))), .unset, .unset, .unset] [(.int (3 : Int32)), (.int (p4 &&& (7 : Int32)))])) _
          exact k
        by_cases hc119_280 : (p4 &&& (7 : Int32)) = (3 : Int32)
        · refine EndsW.go (b := s₁.setTop (mkF m 122 #[.val (.int p1), .val (.int p2), .val (.int p3), .val (.int p4), .val (.int c0), .val (.int c1), .val (.int c2), .val (.int (p4 &&& (7 : Int32))), .unset, .unset, .unset] [])) (fun t k => ?_) ?_
          · show Steps p.tables e below (s₁.setTop (mkF m 119 #[.val (.int p1), .val (.int p2), .val (.int p3), .val (.int p4), .val (.int c0), .val (.int c1), .val (.int c2), .val (.int (p4 &&& (7 : Int32))), .unset, .unset, .unset] [(.int (3 : Int32)), (.int (p4 &&& (7 : Int32)))])) _
            refine XS.icmpNo X0.here hx rfl (hb hby at_119) rfl (teq hc119_280).2 ?_
            show Steps p.tables e below (s₁.setTop (mkF m 122 #[.val (.int p1), .val (.int p2), .val (.int p3), .val (.int p4), .val (.int c0), .val (.int c1), .val (.int c2), .val (.int (p4 &&& (7 : Int32))), .unset, .unset, .unset] [])) _
            exact k
          refine EndsW.go (b := s₁.setTop (mkF m 123 #[.val (.int p1), .val (.int p2), .val (.int p3), .val (.int p4), .val (.int c0), .val (.int c1), .val (.int c2), .val (.int (p4 &&& (7 : Int32))), .unset, .unset, .unset] [(.int (3 : Int32))])) (fun t k => ?_) ?_
          · show Steps p.tables e below (s₁.setTop (mkF m 122 #[.val (.int p1), .val (.int p2), .val (.int p3), .val (.int p4), .val (.int c0), .val (.int c1), .val (.int c2), .val (.int (p4 &&& (7 : Int32))), .unset, .unset, .unset] [])) _
            refine XS.iconst X0.here hx rfl (hb hby at_122) ?_
            exact k
          obtain ⟨T281, h281, k281, X281, e281, E281, A281, st281⟩ := newP X0 hx hZ (own_w hw 1 rfl) e0 (g := (mkF m 123 #[.val (.int p1), .val (.int p2), .val (.int p3), .val (.int p4), .val (.int c0), .val (.int c1), .val (.int c2), .val (.int (p4 &&& (7 : Int32))), .unset, .unset, .unset] [(.int (3 : Int32))])) rfl (hb hby at_123) rfl (by decide) (cap := 3) (by decide) (by decide) (by decide) (by decide)
          obtain ⟨b281, g281⟩ : ∃ z, z = h0.size := ⟨_, rfl⟩
          rw [← g281] at A281 st281
          have gn281 : n0 ≤ b281 := Nat.le_trans Z0 (Nat.le_of_eq g281.symm)
          have f282 := Nat.le_trans Z0 E281.1
          have f283 := Nat.le_trans hk0 E281.1
          have f284 := CHv.ext E281 HC
          have f285 := S_C.ext E281
          have f286 := S_F.ext E281
          have f287 := S_A.ext E281
          have f288 := S_H.ext E281
          have f289 := S_L.ext E281
          have f290 : Arf Z h281 b281 k281 .char (3 : Int32) (fun _ => .int (0 : Int32)) := Arf.new A281 (by decide)
          refine EndsW.go st281 ?_
          show EndsW _ _ _ _ _ _ _ (T281.setTop (mkF m 125 #[.val (.int p1), .val (.int p2), .val (.int p3), .val (.int p4), .val (.int c0), .val (.int c1), .val (.int c2), .val (.int (p4 &&& (7 : Int32))), .unset, .unset, .unset] [(.ref b281)]))
          refine EndsW.go (b := T281.setTop (mkF m 129 #[.val (.int p1), .val (.int p2), .val (.int p3), .val (.int p4), .val (.int c0), .val (.int c1), .val (.int c2), .val (.int (p4 &&& (7 : Int32))), .unset, .unset, .unset] [(.int c0), (.int (0 : Int32)), (.ref b281), (.ref b281)])) (fun t k => ?_) ?_
          · show Steps p.tables e below (T281.setTop (mkF m 125 #[.val (.int p1), .val (.int p2), .val (.int p3), .val (.int p4), .val (.int c0), .val (.int c1), .val (.int c2), .val (.int (p4 &&& (7 : Int32))), .unset, .unset, .unset] [(.ref b281)])) _
            refine XS.dup X281.here hx rfl (hb hby at_125) rfl rfl ?_
            refine XS.iconst X281.here hx rfl (hb hby at_126) ?_
            refine XS.iload X281.here hx rfl (hb hby at_127) rfl ?_
            show Steps p.tables e below (T281.setTop (mkF m 129 #[.val (.int p1), .val (.int p2), .val (.int p3), .val (.int p4), .val (.int c0), .val (.int c1), .val (.int c2), .val (.int (p4 &&& (7 : Int32))), .unset, .unset, .unset] [(.int c0), (.int (0 : Int32)), (.ref b281), (.ref b281)])) _
            exact k
          obtain ⟨cl291, Ar291, q291, S291, M291, H291, G291⟩ := id f290
          have hin291 : ¬ ((0 : Int32) < 0 ∨ cl291.slots.size ≤ ((0 : Int32)).toNatClampNeg) := inb_of S291 ⟨by decide, by decide⟩
          obtain ⟨T291, h291, X291, e291, W291, st291⟩ := stC X281 hx hZ e281 Ar291 (j := (0 : Int32)) hin291 (g := (mkF m 129 #[.val (.int p1), .val (.int p2), .val (.int p3), .val (.int p4), .val (.int c0), .val (.int c1), .val (.int c2), .val (.int (p4 &&& (7 : Int32))), .unset, .unset, .unset] [(.int c0), (.int (0 : Int32)), (.ref b281), (.ref b281)])) rfl rfl (hb hby at_129)
          have fa291 := Arf.set (v := .int (nar .char c0)) Ar291 q291 S291 M291 H291 G291 (fits_nar_char c0) W291
          have f292 := Nat.le_trans f282 (Keep.of_wr W291).1
          have f293 := Nat.le_trans f283 (Keep.of_wr W291).1
          have f295 := f285.wr W291
          have f296 := f286.wr W291
          have f297 := f287.wr W291
          have f298 := f288.wr W291
          have f299 := f289.wr W291
          have N291 := Fr.snoc X291 N0 gn281
          refine EndsW.go st291 ?_
          show EndsW _ _ _ _ _ _ _ (T291.setTop (mkF m 130 #[.val (.int p1), .val (.int p2), .val (.int p3), .val (.int p4), .val (.int c0), .val (.int c1), .val (.int c2), .val (.int (p4 &&& (7 : Int32))), .unset, .unset, .unset] [(.ref b281)]))
          refine EndsW.go (b := T291.setTop (mkF m 134 #[.val (.int p1), .val (.int p2), .val (.int p3), .val (.int p4), .val (.int c0), .val (.int c1), .val (.int c2), .val (.int (p4 &&& (7 : Int32))), .unset, .unset, .unset] [(.int c1), (.int (1 : Int32)), (.ref b281), (.ref b281)])) (fun t k => ?_) ?_
          · show Steps p.tables e below (T291.setTop (mkF m 130 #[.val (.int p1), .val (.int p2), .val (.int p3), .val (.int p4), .val (.int c0), .val (.int c1), .val (.int c2), .val (.int (p4 &&& (7 : Int32))), .unset, .unset, .unset] [(.ref b281)])) _
            refine XS.dup X291.here hx rfl (hb hby at_130) rfl rfl ?_
            refine XS.iconst X291.here hx rfl (hb hby at_131) ?_
            refine XS.iload X291.here hx rfl (hb hby at_132) rfl ?_
            exact k
          obtain ⟨cl300, Ar300, q300, S300, M300, H300, G300⟩ := id fa291
          have hin300 : ¬ ((1 : Int32) < 0 ∨ cl300.slots.size ≤ ((1 : Int32)).toNatClampNeg) := inb_of S300 ⟨by decide, by decide⟩
          obtain ⟨T300, h300, X300, e300, W300, st300⟩ := stC X291 hx hZ e291 Ar300 (j := (1 : Int32)) hin300 (g := (mkF m 134 #[.val (.int p1), .val (.int p2), .val (.int p3), .val (.int p4), .val (.int c0), .val (.int c1), .val (.int c2), .val (.int (p4 &&& (7 : Int32))), .unset, .unset, .unset] [(.int c1), (.int (1 : Int32)), (.ref b281), (.ref b281)])) rfl rfl (hb hby at_134)
          have fa300 := Arf.set (v := .int (nar .char c1)) Ar300 q300 S300 M300 H300 G300 (fits_nar_char c1) W300
          have f301 := Nat.le_trans f292 (Keep.of_wr W300).1
          have f302 := Nat.le_trans f293 (Keep.of_wr W300).1
          have f303 := f295.wr W300
          have f304 := f296.wr W300
          have f305 := f297.wr W300
          have f306 := f298.wr W300
          have f307 := f299.wr W300
          have N300 := Fr.snoc X300 N291 gn281
          refine EndsW.go st300 ?_
          show EndsW _ _ _ _ _ _ _ (T300.setTop (mkF m 135 #[.val (.int p1), .val (.int p2), .val (.int p3), .val (.int p4), .val (.int c0), .val (.int c1), .val (.int c2), .val (.int (p4 &&& (7 : Int32))), .unset, .unset, .unset] [(.ref b281)]))
          refine EndsW.go (b := T300.setTop (mkF m 139 #[.val (.int p1), .val (.int p2), .val (.int p3), .val (.int p4), .val (.int c0), .val (.int c1), .val (.int c2), .val (.int (p4 &&& (7 : Int32))), .unset, .unset, .unset] [(.int c2), (.int (2 : Int32)), (.ref b281), (.ref b281)])) (fun t k => ?_) ?_
          · show Steps p.tables e below (T300.setTop (mkF m 135 #[.val (.int p1), .val (.int p2), .val (.int p3), .val (.int p4), .val (.int c0), .val (.int c1), .val (.int c2), .val (.int (p4 &&& (7 : Int32))), .unset, .unset, .unset] [(.ref b281)])) _
            refine XS.dup X300.here hx rfl (hb hby at_135) rfl rfl ?_
            show Steps p.tables e below (T300.setTop (mkF m 136 #[.val (.int p1), .val (.int p2), .val (.int p3), .val (.int p4), .val (.int c0), .val (.int c1), .val (.int c2), .val (.int (p4 &&& (7 : Int32))), .unset, .unset, .unset] [(.ref b281), (.ref b281)])) _
            refine XS.iconst X300.here hx rfl (hb hby at_136) ?_
            refine XS.iload X300.here hx rfl (hb hby at_137) rfl ?_
            exact k
          obtain ⟨cl308, Ar308, q308, S308, M308, H308, G308⟩ := id fa300
          have hin308 : ¬ ((2 : Int32) < 0 ∨ cl308.slots.size ≤ ((2 : Int32)).toNatClampNeg) := inb_of S308 ⟨by decide, by decide⟩
          obtain ⟨T308, h308, X308, e308, W308, st308⟩ := stC X300 hx hZ e300 Ar308 (j := (2 : Int32)) hin308 (g := (mkF m 139 #[.val (.int p1), .val (.int p2), .val (.int p3), .val (.int p4), .val (.int c0), .val (.int c1), .val (.int c2), .val (.int (p4 &&& (7 : Int32))), .unset, .unset, .unset] [(.int c2), (.int (2 : Int32)), (.ref b281), (.ref b281)])) rfl rfl (hb hby at_139)
          have fa308 := Arf.set (v := .int (nar .char c2)) Ar308 q308 S308 M308 H308 G308 (fits_nar_char c2) W308
          have f309 := Nat.le_trans f301 (Keep.of_wr W308).1
          have f310 := Nat.le_trans f302 (Keep.of_wr W308).1
          have f311 := f303.wr W308
          have f312 := f304.wr W308
          have f313 := f305.wr W308
          have f314 := f306.wr W308
          have f315 := f307.wr W308
          have N308 := Fr.snoc X308 N300 gn281
          refine EndsW.go st308 ?_
          show EndsW _ _ _ _ _ _ _ (T308.setTop (mkF m 140 #[.val (.int p1), .val (.int p2), .val (.int p3), .val (.int p4), .val (.int c0), .val (.int c1), .val (.int c2), .val (.int (p4 &&& (7 : Int32))), .unset, .unset, .unset] [(.ref b281)]))
          refine EndsW.go (b := T308.setTop (mkF m 144 #[.val (.int p1), .val (.int p2), .val (.int p3), .val (.int p4), .val (.int c0), .val (.int c1), .val (.int c2), .val (.int (p4 &&& (7 : Int32))), .val (.ref b281), .unset, .unset] [(.int c0)])) (fun t k => ?_) ?_
          · show Steps p.tables e below (T308.setTop (mkF m 140 #[.val (.int p1), .val (.int p2), .val (.int p3), .val (.int p4), .val (.int c0), .val (.int c1), .val (.int c2), .val (.int (p4 &&& (7 : Int32))), .unset, .unset, .unset] [(.ref b281)])) _
            refine XS.astore X308.here hx rfl (hb hby at_140) rfl rfl (l' := #[.val (.int p1), .val (.int p2), .val (.int p3), .val (.int p4), .val (.int c0), .val (.int c1), .val (.int c2), .val (.int (p4 &&& (7 : Int32))), .val (.ref b281), .unset, .unset]) rfl ?_
            refine XS.iload X308.here hx rfl (hb hby at_142) rfl ?_
            show Steps p.tables e below (T308.setTop (mkF m 144 #[.val (.int p1), .val (.int p2), .val (.int p3), .val (.int p4), .val (.int c0), .val (.int c1), .val (.int c2), .val (.int (p4 &&& (7 : Int32))), .val (.ref b281), .unset, .unset] [(.int c0)])) _
            exact k
          obtain ⟨_, _, ⟨T316, L316, kk316, nn316⟩, -, X316, ⟨Lc316, hQ316, l316, y316, z316⟩, st316⟩ := Jvm.LawKit.callS X308 hx (y := (⟨"com/example/lossfall/lossfall/model/CertificateClassIsValidNamePinLaw", "ok", "(C)Z"⟩ : MethodName)) hown (mvT hZ (own_w hw 2 rfl)) (mvT hZ (own_w hw 3 rfl)) (mvT hZ (own_w hw 4 rfl)) (mvT hZ (own_w hw 5 rfl)) (by decide) (backOf (W := 0) (rm1 l Z a0 hw [] c0 h308 n0 f309 hc0.1) hZ (own_w hw 5 rfl) (own_w hw 4 rfl) (by decide) (by decide)) (g := (mkF m 144 #[.val (.int p1), .val (.int p2), .val (.int p3), .val (.int p4), .val (.int c0), .val (.int c1), .val (.int c2), .val (.int (p4 &&& (7 : Int32))), .val (.ref b281), .unset, .unset] [(.int c0)])) rfl (by rw [hml]; rfl) (argsL := [(.int c0)]) (rest := []) (lenOf pd_18 rfl) rfl (by show 2 * 0 + _ ≤ _; exact Nat.le_of_eq rfl) (hb hby at_144) (fun _ _ => ⟨rfl, e308, (by decide : 1 + 0 ≤ _), (by decide : 3 + 0 ≤ _)⟩)
          dsimp only [Pt.U, Pt.locs, Pt.cells, Pt.slots] at X316 l316 y316 z316 st316 hQ316
          subst l316 y316 z316
          obtain ⟨rfl, Nq316, eq316⟩ := hQ316
          have N316 := Fr.app N308 Nq316
          refine EndsW.go st316 ?_
          show EndsW _ _ _ _ _ _ _ (T316.setTop (mkF m 147 #[.val (.int p1), .val (.int p2), .val (.int p3), .val (.int p4), .val (.int c0), .val (.int c1), .val (.int c2), .val (.int (p4 &&& (7 : Int32))), .val (.ref b281), .unset, .unset] [(.int (own_okc c0))]))
          by_cases hc147_317 : (own_okc c0) = (0 : Int32)
          · refine EndsW.go (b := T316.setTop (mkF m 170 #[.val (.int p1), .val (.int p2), .val (.int p3), .val (.int p4), .val (.int c0), .val (.int c1), .val (.int c2), .val (.int (p4 &&& (7 : Int32))), .val (.ref b281), .unset, .unset] [])) (fun t k => ?_) ?_
            · show Steps p.tables e below (T316.setTop (mkF m 147 #[.val (.int p1), .val (.int p2), .val (.int p3), .val (.int p4), .val (.int c0), .val (.int c1), .val (.int c2), .val (.int (p4 &&& (7 : Int32))), .val (.ref b281), .unset, .unset] [(.int (own_okc c0))])) _
              refine XS.ifYes X316.here hx rfl (pc0 := 147) (pc' := 170) rfl (hb hby at_147) rfl ((if0 _ _).trans (teq hc147_317).1) (by decide) (by decide) ?_
              show Steps p.tables e below (T316.setTop (mkF m 170 #[.val (.int p1), .val (.int p2), .val (.int p3), .val (.int p4), .val (.int c0), .val (.int c1), .val (.int c2), .val (.int (p4 &&& (7 : Int32))), .val (.ref b281), .unset, .unset] [])) _
              exact k
            refine EndsW.go (b := T316.setTop (mkF m 272 #[.val (.int p1), .val (.int p2), .val (.int p3), .val (.int p4), .val (.int c0), .val (.int c1), .val (.int c2), .val (.int (p4 &&& (7 : Int32))), .val (.ref b281), .val (.int (0 : Int32)), .unset] [])) (fun t k => ?_) ?_
            · show Steps p.tables e below (T316.setTop (mkF m 170 #[.val (.int p1), .val (.int p2), .val (.int p3), .val (.int p4), .val (.int c0), .val (.int c1), .val (.int c2), .val (.int (p4 &&& (7 : Int32))), .val (.ref b281), .unset, .unset] [])) _
              refine XS.iconst X316.here hx rfl (hb hby at_170) ?_
              refine XS.istore X316.here hx rfl (hb hby at_171) rfl (l' := #[.val (.int p1), .val (.int p2), .val (.int p3), .val (.int p4), .val (.int c0), .val (.int c1), .val (.int c2), .val (.int (p4 &&& (7 : Int32))), .val (.ref b281), .val (.int (0 : Int32)), .unset]) rfl ?_
              refine XS.goto X316.here hx rfl (pc0 := 173) (pc' := 272) rfl (hb hby at_173) (by decide) (by decide) ?_
              exact k
            have Gc318 : Arf Z h308 b281 k281 .char (3 : Int32) (own_cv (own_ch3 c0 c1 c2)) := own_a3 fa308 hc0 hc1 hc2
            obtain ⟨T319, h319, X319, e319, E319, A319, D319, -, st319⟩ := newO X316 hx hZ hown (own_w hw 6 rfl) (own_w hw 7 rfl) (own_w hw 8 rfl) eq316 (g := (mkF m 272 #[.val (.int p1), .val (.int p2), .val (.int p3), .val (.int p4), .val (.int c0), .val (.int c1), .val (.int c2), .val (.int (p4 &&& (7 : Int32))), .val (.ref b281), .val (.int (0 : Int32)), .unset] [])) rfl (hb hby at_272) (by decide) (by decide)
            obtain ⟨b319, g319⟩ : ∃ z, z = h308.size := ⟨_, rfl⟩
            rw [← g319] at A319 D319 st319
            have gn319 : n0 ≤ b319 := Nat.le_trans f309 (Nat.le_of_eq g319.symm)
            have ne319_b281 : b281 ≠ b319 := Nat.ne_of_lt (Nat.lt_of_lt_of_le Gc318.lt (Nat.le_of_eq g319.symm))
            have f320 := Nat.le_trans f309 E319.1
            have f321 := Nat.le_trans f310 E319.1
            have f322 := f311.ext E319
            have f323 := f312.ext E319
            have f324 := f313.ext E319
            have f325 := f314.ext E319
            have f326 := f315.ext E319
            have f327 := Gc318.ext E319
            have f328 : Fld Z h319 b319 "java/lang/String" "coder" "B" (.int (0 : Int32)) := D319 (Or.inr (own_w hw 32 rfl)) (ty := .byte) (by decide)
            have f329 : Fld Z h319 b319 "java/lang/String" "value" "[B" .null := D319 (Or.inr (own_w hw 34 rfl)) (ty := (.array .byte)) (by decide)
            refine EndsW.go st319 ?_
            show EndsW _ _ _ _ _ _ _ (T319.setTop (mkF m 275 #[.val (.int p1), .val (.int p2), .val (.int p3), .val (.int p4), .val (.int c0), .val (.int c1), .val (.int c2), .val (.int (p4 &&& (7 : Int32))), .val (.ref b281), .val (.int (0 : Int32)), .unset] [(.ref b319)]))
            refine EndsW.go (b := T319.setTop (mkF m 278 #[.val (.int p1), .val (.int p2), .val (.int p3), .val (.int p4), .val (.int c0), .val (.int c1), .val (.int c2), .val (.int (p4 &&& (7 : Int32))), .val (.ref b281), .val (.int (0 : Int32)), .unset] [(.ref b281), (.ref b319), (.ref b319)])) (fun t k => ?_) ?_
            · show Steps p.tables e below (T319.setTop (mkF m 275 #[.val (.int p1), .val (.int p2), .val (.int p3), .val (.int p4), .val (.int c0), .val (.int c1), .val (.int c2), .val (.int (p4 &&& (7 : Int32))), .val (.ref b281), .val (.int (0 : Int32)), .unset] [(.ref b319)])) _
              refine XS.dup X319.here hx rfl (hb hby at_275) rfl rfl ?_
              show Steps p.tables e below (T319.setTop (mkF m 276 #[.val (.int p1), .val (.int p2), .val (.int p3), .val (.int p4), .val (.int c0), .val (.int c1), .val (.int c2), .val (.int (p4 &&& (7 : Int32))), .val (.ref b281), .val (.int (0 : Int32)), .unset] [(.ref b319), (.ref b319)])) _
              refine XS.aload X319.here hx rfl (hb hby at_276) rfl rfl ?_
              exact k
            obtain ⟨_, _, ⟨T330, L330, kk330, nn330⟩, -, X330, ⟨Lc330, hQ330, l330, y330, z330⟩, st330⟩ := X319.specialBack hx (y := (⟨"java/lang/String", "<init>", "([C)V"⟩ : MethodName)) rfl hown (mvT hZ (own_w hw 9 rfl)) (mvT hZ (own_w hw 10 rfl)) (mvT hZ (own_w hw 11 rfl)) (by decide) (backOf (W := 1) (rm2 l Z a0 hw [] b319 b281 cs fv k281 (3 : Int32) (own_ch3 c0 c1 c2) h319 n0 f320 ⟨f322, hcs, f323, hfv, f324, f325, f326⟩ A319 f329 f328 gn319 (Ne.symm ne319_b281) f327 (by decide) (by decide) (by decide) (own_ch3R c0 c1 c2 hc0 hc1 hc2)) hZ (own_w hw 11 rfl) (own_w hw 8 rfl) (by decide) (by decide)) (g := (mkF m 278 #[.val (.int p1), .val (.int p2), .val (.int p3), .val (.int p4), .val (.int c0), .val (.int c1), .val (.int c2), .val (.int (p4 &&& (7 : Int32))), .val (.ref b281), .val (.int (0 : Int32)), .unset] [(.ref b281), (.ref b319), (.ref b319)])) rfl (by rw [hml]; rfl) (Steps.refl _) (a := b319) (argsL := [(.ref b281)]) (rest := [(.ref b319)]) (lenOf pd_16 rfl) rfl (by show 2 * 0 + _ ≤ _; exact Nat.le_of_eq rfl) (hb hby at_278) (fun _ _ => ⟨rfl, e319, (by decide : 2 + 2 ≤ _), (by decide : 7 + 99 ≤ _)⟩)
            dsimp only [Pt.U, Pt.locs, Pt.cells, Pt.slots] at X330 l330 y330 z330 st330 hQ330
            subst l330 y330 z330
            obtain ⟨rfl, Nq330, K330, Ys330⟩ := hQ330
            have N330 := Fr.app N316 Nq330
            have f331 := Nat.le_trans f320 K330.1
            have f332 := Nat.le_trans f321 K330.1
            have f333 := own_sta_keep f322 K330 A319
            have f334 := own_sta_keep f323 K330 A319
            have f335 := own_sta_keep f324 K330 A319
            have f336 := own_sta_keep f325 K330 A319
            have f337 := own_sta_keep f326 K330 A319
            have f338 := f327.keep K330 (ninS ne319_b281 nin0)
            have f339 := A319.keep K330
            refine EndsW.go (fun t k => st330.trans k) ?_
            show EndsW _ _ _ _ _ _ _ (T330.setTop (mkF m 281 #[.val (.int p1), .val (.int p2), .val (.int p3), .val (.int p4), .val (.int c0), .val (.int c1), .val (.int c2), .val (.int (p4 &&& (7 : Int32))), .val (.ref b281), .val (.int (0 : Int32)), .unset] [(.ref b319)]))
            obtain ⟨_, _, ⟨T340, L340, kk340, nn340⟩, -, X340, ⟨Lc340, hQ340, l340, y340, z340⟩, st340⟩ := Jvm.LawKit.callS X330 hx (y := (⟨"com/example/lossfall/lossfall/model/CertificateClass", "isValidName", "(Ljava/lang/String;)Z"⟩ : MethodName)) hown (mvT hZ (own_w hw 35 rfl)) (mvT hZ (own_w hw 36 rfl)) (mvT hZ (own_w hw 37 rfl)) (mvT hZ (own_w hw 38 rfl)) (by decide) (backOf (W := 0) (rm8 l Z a0 hw [] b319 cs fv (3 : Int32) (own_ch3 c0 c1 c2) T330.heap n0 f331 ⟨f333, hcs, f334, hfv, f335, f336, f337⟩ Ys330 (by decide) (by decide) (own_ch3R c0 c1 c2 hc0 hc1 hc2) Ys330.1) hZ (own_w hw 38 rfl) (own_w hw 37 rfl) (by decide) (by decide)) (g := (mkF m 281 #[.val (.int p1), .val (.int p2), .val (.int p3), .val (.int p4), .val (.int c0), .val (.int c1), .val (.int c2), .val (.int (p4 &&& (7 : Int32))), .val (.ref b281), .val (.int (0 : Int32)), .unset] [(.ref b319)])) rfl (by rw [hml]; rfl) (argsL := [(.ref b319)]) (rest := []) (lenOf pd_17 rfl) rfl (by show 2 * 0 + _ ≤ _; exact Nat.le_of_eq rfl) (hb hby at_281) (fun _ _ => ⟨rfl, rfl, (by decide : 4 + 0 ≤ _), (by decide : 106 + 0 ≤ _)⟩)
            dsimp only [Pt.U, Pt.locs, Pt.cells, Pt.slots] at X340 l340 y340 z340 st340 hQ340
            subst l340 y340 z340
            obtain ⟨rfl, Nq340, eq340⟩ := hQ340
            have N340 := Fr.app N330 Nq340
            refine EndsW.go st340 ?_
            show EndsW _ _ _ _ _ _ _ (T340.setTop (mkF m 284 #[.val (.int p1), .val (.int p2), .val (.int p3), .val (.int p4), .val (.int c0), .val (.int c1), .val (.int c2), .val (.int (p4 &&& (7 : Int32))), .val (.ref b281), .val (.int (0 : Int32)), .unset] [(.int (own_val (3 : Int32) (own_ch3 c0 c1 c2)))]))
            refine EndsW.go (b := T340.setTop (mkF m 294 #[.val (.int p1), .val (.int p2), .val (.int p3), .val (.int p4), .val (.int c0), .val (.int c1), .val (.int c2), .val (.int (p4 &&& (7 : Int32))), .val (.ref b281), .val (.int (0 : Int32)), .unset] [(.int (1 : Int32))])) (fun t k => ?_) ?_
            · show Steps p.tables e below (T340.setTop (mkF m 284 #[.val (.int p1), .val (.int p2), .val (.int p3), .val (.int p4), .val (.int c0), .val (.int c1), .val (.int c2), .val (.int (p4 &&& (7 : Int32))), .val (.ref b281), .val (.int (0 : Int32)), .unset] [(.int (own_val (3 : Int32) (own_ch3 c0 c1 c2)))])) _
              refine XS.iload X340.here hx rfl (hb hby at_284) rfl ?_
              refine XS.icmpNo X340.here hx rfl (hb hby at_286) rfl (teq (own_vZero _ _ (by decide) (by decide) 0 (by decide) c0 rfl hc147_317)).2 ?_
              show Steps p.tables e below (T340.setTop (mkF m 289 #[.val (.int p1), .val (.int p2), .val (.int p3), .val (.int p4), .val (.int c0), .val (.int c1), .val (.int c2), .val (.int (p4 &&& (7 : Int32))), .val (.ref b281), .val (.int (0 : Int32)), .unset] [])) _
              refine XS.iconst X340.here hx rfl (hb hby at_289) ?_
              refine XS.goto X340.here hx rfl (pc0 := 290) (pc' := 294) rfl (hb hby at_290) (by decide) (by decide) ?_
              show Steps p.tables e below (T340.setTop (mkF m 294 #[.val (.int p1), .val (.int p2), .val (.int p3), .val (.int p4), .val (.int c0), .val (.int c1), .val (.int c2), .val (.int (p4 &&& (7 : Int32))), .val (.ref b281), .val (.int (0 : Int32)), .unset] [(.int (1 : Int32))])) _
              exact k
            refine EndsW.retN X340 hS0 (by rw [eq340]; exact f332) hx Bd.notSynchronized (t := .boolean) Bd.returns (by simp) (hb hby at_294) (by decide) (by decide) ?_
            show Q0 Z p1 p2 p3 p4 cs fv h0 n0 (some (.int (nar .boolean (1 : Int32)))) T340.heap _
            rw [eq340]
            exact ⟨rfl, N340⟩
          · refine EndsW.go (b := T316.setTop (mkF m 150 #[.val (.int p1), .val (.int p2), .val (.int p3), .val (.int p4), .val (.int c0), .val (.int c1), .val (.int c2), .val (.int (p4 &&& (7 : Int32))), .val (.ref b281), .unset, .unset] [])) (fun t k => ?_) ?_
            · show Steps p.tables e below (T316.setTop (mkF m 147 #[.val (.int p1), .val (.int p2), .val (.int p3), .val (.int p4), .val (.int c0), .val (.int c1), .val (.int c2), .val (.int (p4 &&& (7 : Int32))), .val (.ref b281), .unset, .unset] [(.int (own_okc c0))])) _
              refine XS.ifNo X316.here hx rfl (hb hby at_147) rfl ((if0 _ _).trans (feq hc147_317).1) ?_
              show Steps p.tables e below (T316.setTop (mkF m 150 #[.val (.int p1), .val (.int p2), .val (.int p3), .val (.int p4), .val (.int c0), .val (.int c1), .val (.int c2), .val (.int (p4 &&& (7 : Int32))), .val (.ref b281), .unset, .unset] [])) _
              exact k
            refine EndsW.go (b := T316.setTop (mkF m 152 #[.val (.int p1), .val (.int p2), .val (.int p3), .val (.int p4), .val (.int c0), .val (.int c1), .val (.int c2), .val (.int (p4 &&& (7 : Int32))), .val (.ref b281), .unset, .unset] [(.int c1)])) (fun t k => ?_) ?_
            · show Steps p.tables e below (T316.setTop (mkF m 150 #[.val (.int p1), .val (.int p2), .val (.int p3), .val (.int p4), .val (.int c0), .val (.int c1), .val (.int c2), .val (.int (p4 &&& (7 : Int32))), .val (.ref b281), .unset, .unset] [])) _
              refine XS.iload X316.here hx rfl (hb hby at_150) rfl ?_
              exact k
            obtain ⟨_, _, ⟨T341, L341, kk341, nn341⟩, -, X341, ⟨Lc341, hQ341, l341, y341, z341⟩, st341⟩ := Jvm.LawKit.callS X316 hx (y := (⟨"com/example/lossfall/lossfall/model/CertificateClassIsValidNamePinLaw", "ok", "(C)Z"⟩ : MethodName)) hown (mvT hZ (own_w hw 2 rfl)) (mvT hZ (own_w hw 3 rfl)) (mvT hZ (own_w hw 4 rfl)) (mvT hZ (own_w hw 5 rfl)) (by decide) (backOf (W := 0) (rm1 l Z a0 hw [] c1 h308 n0 f309 hc1.1) hZ (own_w hw 5 rfl) (own_w hw 4 rfl) (by decide) (by decide)) (g := (mkF m 152 #[.val (.int p1), .val (.int p2), .val (.int p3), .val (.int p4), .val (.int c0), .val (.int c1), .val (.int c2), .val (.int (p4 &&& (7 : Int32))), .val (.ref b281), .unset, .unset] [(.int c1)])) rfl (by rw [hml]; rfl) (argsL := [(.int c1)]) (rest := []) (lenOf pd_18 rfl) rfl (by show 2 * 0 + _ ≤ _; exact Nat.le_of_eq rfl) (hb hby at_152) (fun _ _ => ⟨rfl, eq316, (by decide : 1 + 0 ≤ _), (by decide : 3 + 0 ≤ _)⟩)
            dsimp only [Pt.U, Pt.locs, Pt.cells, Pt.slots] at X341 l341 y341 z341 st341 hQ341
            subst l341 y341 z341
            obtain ⟨rfl, Nq341, eq341⟩ := hQ341
            have N341 := Fr.app N316 Nq341
            refine EndsW.go st341 ?_
            show EndsW _ _ _ _ _ _ _ (T341.setTop (mkF m 155 #[.val (.int p1), .val (.int p2), .val (.int p3), .val (.int p4), .val (.int c0), .val (.int c1), .val (.int c2), .val (.int (p4 &&& (7 : Int32))), .val (.ref b281), .unset, .unset] [(.int (own_okc c1))]))
            by_cases hc155_342 : (own_okc c1) = (0 : Int32)
            · refine EndsW.go (b := T341.setTop (mkF m 170 #[.val (.int p1), .val (.int p2), .val (.int p3), .val (.int p4), .val (.int c0), .val (.int c1), .val (.int c2), .val (.int (p4 &&& (7 : Int32))), .val (.ref b281), .unset, .unset] [])) (fun t k => ?_) ?_
              · show Steps p.tables e below (T341.setTop (mkF m 155 #[.val (.int p1), .val (.int p2), .val (.int p3), .val (.int p4), .val (.int c0), .val (.int c1), .val (.int c2), .val (.int (p4 &&& (7 : Int32))), .val (.ref b281), .unset, .unset] [(.int (own_okc c1))])) _
                refine XS.ifYes X341.here hx rfl (pc0 := 155) (pc' := 170) rfl (hb hby at_155) rfl ((if0 _ _).trans (teq hc155_342).1) (by decide) (by decide) ?_
                show Steps p.tables e below (T341.setTop (mkF m 170 #[.val (.int p1), .val (.int p2), .val (.int p3), .val (.int p4), .val (.int c0), .val (.int c1), .val (.int c2), .val (.int (p4 &&& (7 : Int32))), .val (.ref b281), .unset, .unset] [])) _
                exact k
              refine EndsW.go (b := T341.setTop (mkF m 272 #[.val (.int p1), .val (.int p2), .val (.int p3), .val (.int p4), .val (.int c0), .val (.int c1), .val (.int c2), .val (.int (p4 &&& (7 : Int32))), .val (.ref b281), .val (.int (0 : Int32)), .unset] [])) (fun t k => ?_) ?_
              · show Steps p.tables e below (T341.setTop (mkF m 170 #[.val (.int p1), .val (.int p2), .val (.int p3), .val (.int p4), .val (.int c0), .val (.int c1), .val (.int c2), .val (.int (p4 &&& (7 : Int32))), .val (.ref b281), .unset, .unset] [])) _
                refine XS.iconst X341.here hx rfl (hb hby at_170) ?_
                refine XS.istore X341.here hx rfl (hb hby at_171) rfl (l' := #[.val (.int p1), .val (.int p2), .val (.int p3), .val (.int p4), .val (.int c0), .val (.int c1), .val (.int c2), .val (.int (p4 &&& (7 : Int32))), .val (.ref b281), .val (.int (0 : Int32)), .unset]) rfl ?_
                refine XS.goto X341.here hx rfl (pc0 := 173) (pc' := 272) rfl (hb hby at_173) (by decide) (by decide) ?_
                show Steps p.tables e below (T341.setTop (mkF m 272 #[.val (.int p1), .val (.int p2), .val (.int p3), .val (.int p4), .val (.int c0), .val (.int c1), .val (.int c2), .val (.int (p4 &&& (7 : Int32))), .val (.ref b281), .val (.int (0 : Int32)), .unset] [])) _
                exact k
              have Gc343 : Arf Z h308 b281 k281 .char (3 : Int32) (own_cv (own_ch3 c0 c1 c2)) := own_a3 fa308 hc0 hc1 hc2
              obtain ⟨T344, h344, X344, e344, E344, A344, D344, -, st344⟩ := newO X341 hx hZ hown (own_w hw 6 rfl) (own_w hw 7 rfl) (own_w hw 8 rfl) eq341 (g := (mkF m 272 #[.val (.int p1), .val (.int p2), .val (.int p3), .val (.int p4), .val (.int c0), .val (.int c1), .val (.int c2), .val (.int (p4 &&& (7 : Int32))), .val (.ref b281), .val (.int (0 : Int32)), .unset] [])) rfl (hb hby at_272) (by decide) (by decide)
              obtain ⟨b344, g344⟩ : ∃ z, z = h308.size := ⟨_, rfl⟩
              rw [← g344] at A344 D344 st344
              have gn344 : n0 ≤ b344 := Nat.le_trans f309 (Nat.le_of_eq g344.symm)
              have ne344_b281 : b281 ≠ b344 := Nat.ne_of_lt (Nat.lt_of_lt_of_le Gc343.lt (Nat.le_of_eq g344.symm))
              have f345 := Nat.le_trans f309 E344.1
              have f346 := Nat.le_trans f310 E344.1
              have f347 := f311.ext E344
              have f348 := f312.ext E344
              have f349 := f313.ext E344
              have f350 := f314.ext E344
              have f351 := f315.ext E344
              have f352 := Gc343.ext E344
              have f353 : Fld Z h344 b344 "java/lang/String" "coder" "B" (.int (0 : Int32)) := D344 (Or.inr (own_w hw 32 rfl)) (ty := .byte) (by decide)
              have f354 : Fld Z h344 b344 "java/lang/String" "value" "[B" .null := D344 (Or.inr (own_w hw 34 rfl)) (ty := (.array .byte)) (by decide)
              refine EndsW.go st344 ?_
              show EndsW _ _ _ _ _ _ _ (T344.setTop (mkF m 275 #[.val (.int p1), .val (.int p2), .val (.int p3), .val (.int p4), .val (.int c0), .val (.int c1), .val (.int c2), .val (.int (p4 &&& (7 : Int32))), .val (.ref b281), .val (.int (0 : Int32)), .unset] [(.ref b344)]))
              refine EndsW.go (b := T344.setTop (mkF m 278 #[.val (.int p1), .val (.int p2), .val (.int p3), .val (.int p4), .val (.int c0), .val (.int c1), .val (.int c2), .val (.int (p4 &&& (7 : Int32))), .val (.ref b281), .val (.int (0 : Int32)), .unset] [(.ref b281), (.ref b344), (.ref b344)])) (fun t k => ?_) ?_
              · show Steps p.tables e below (T344.setTop (mkF m 275 #[.val (.int p1), .val (.int p2), .val (.int p3), .val (.int p4), .val (.int c0), .val (.int c1), .val (.int c2), .val (.int (p4 &&& (7 : Int32))), .val (.ref b281), .val (.int (0 : Int32)), .unset] [(.ref b344)])) _
                refine XS.dup X344.here hx rfl (hb hby at_275) rfl rfl ?_
                refine XS.aload X344.here hx rfl (hb hby at_276) rfl rfl ?_
                exact k
              obtain ⟨_, _, ⟨T355, L355, kk355, nn355⟩, -, X355, ⟨Lc355, hQ355, l355, y355, z355⟩, st355⟩ := X344.specialBack hx (y := (⟨"java/lang/String", "<init>", "([C)V"⟩ : MethodName)) rfl hown (mvT hZ (own_w hw 9 rfl)) (mvT hZ (own_w hw 10 rfl)) (mvT hZ (own_w hw 11 rfl)) (by decide) (backOf (W := 1) (rm2 l Z a0 hw [] b344 b281 cs fv k281 (3 : Int32) (own_ch3 c0 c1 c2) h344 n0 f345 ⟨f347, hcs, f348, hfv, f349, f350, f351⟩ A344 f354 f353 gn344 (Ne.symm ne344_b281) f352 (by decide) (by decide) (by decide) (own_ch3R c0 c1 c2 hc0 hc1 hc2)) hZ (own_w hw 11 rfl) (own_w hw 8 rfl) (by decide) (by decide)) (g := (mkF m 278 #[.val (.int p1), .val (.int p2), .val (.int p3), .val (.int p4), .val (.int c0), .val (.int c1), .val (.int c2), .val (.int (p4 &&& (7 : Int32))), .val (.ref b281), .val (.int (0 : Int32)), .unset] [(.ref b281), (.ref b344), (.ref b344)])) rfl (by rw [hml]; rfl) (Steps.refl _) (a := b344) (argsL := [(.ref b281)]) (rest := [(.ref b344)]) (lenOf pd_16 rfl) rfl (by show 2 * 0 + _ ≤ _; exact Nat.le_of_eq rfl) (hb hby at_278) (fun _ _ => ⟨rfl, e344, (by decide : 2 + 2 ≤ _), (by decide : 7 + 99 ≤ _)⟩)
              dsimp only [Pt.U, Pt.locs, Pt.cells, Pt.slots] at X355 l355 y355 z355 st355 hQ355
              subst l355 y355 z355
              obtain ⟨rfl, Nq355, K355, Ys355⟩ := hQ355
              have N355 := Fr.app N341 Nq355
              have f356 := Nat.le_trans f345 K355.1
              have f357 := Nat.le_trans f346 K355.1
              have f358 := own_sta_keep f347 K355 A344
              have f359 := own_sta_keep f348 K355 A344
              have f360 := own_sta_keep f349 K355 A344
              have f361 := own_sta_keep f350 K355 A344
              have f362 := own_sta_keep f351 K355 A344
              have f363 := f352.keep K355 (ninS ne344_b281 nin0)
              have f364 := A344.keep K355
              refine EndsW.go (fun t k => st355.trans k) ?_
              show EndsW _ _ _ _ _ _ _ (T355.setTop (mkF m 281 #[.val (.int p1), .val (.int p2), .val (.int p3), .val (.int p4), .val (.int c0), .val (.int c1), .val (.int c2), .val (.int (p4 &&& (7 : Int32))), .val (.ref b281), .val (.int (0 : Int32)), .unset] [(.ref b344)]))
              obtain ⟨_, _, ⟨T365, L365, kk365, nn365⟩, -, X365, ⟨Lc365, hQ365, l365, y365, z365⟩, st365⟩ := Jvm.LawKit.callS X355 hx (y := (⟨"com/example/lossfall/lossfall/model/CertificateClass", "isValidName", "(Ljava/lang/String;)Z"⟩ : MethodName)) hown (mvT hZ (own_w hw 35 rfl)) (mvT hZ (own_w hw 36 rfl)) (mvT hZ (own_w hw 37 rfl)) (mvT hZ (own_w hw 38 rfl)) (by decide) (backOf (W := 0) (rm8 l Z a0 hw [] b344 cs fv (3 : Int32) (own_ch3 c0 c1 c2) T355.heap n0 f356 ⟨f358, hcs, f359, hfv, f360, f361, f362⟩ Ys355 (by decide) (by decide) (own_ch3R c0 c1 c2 hc0 hc1 hc2) Ys355.1) hZ (own_w hw 38 rfl) (own_w hw 37 rfl) (by decide) (by decide)) (g := (mkF m 281 #[.val (.int p1), .val (.int p2), .val (.int p3), .val (.int p4), .val (.int c0), .val (.int c1), .val (.int c2), .val (.int (p4 &&& (7 : Int32))), .val (.ref b281), .val (.int (0 : Int32)), .unset] [(.ref b344)])) rfl (by rw [hml]; rfl) (argsL := [(.ref b344)]) (rest := []) (lenOf pd_17 rfl) rfl (by show 2 * 0 + _ ≤ _; exact Nat.le_of_eq rfl) (hb hby at_281) (fun _ _ => ⟨rfl, rfl, (by decide : 4 + 0 ≤ _), (by decide : 106 + 0 ≤ _)⟩)
              dsimp only [Pt.U, Pt.locs, Pt.cells, Pt.slots] at X365 l365 y365 z365 st365 hQ365
              subst l365 y365 z365
              obtain ⟨rfl, Nq365, eq365⟩ := hQ365
              have N365 := Fr.app N355 Nq365
              refine EndsW.go st365 ?_
              show EndsW _ _ _ _ _ _ _ (T365.setTop (mkF m 284 #[.val (.int p1), .val (.int p2), .val (.int p3), .val (.int p4), .val (.int c0), .val (.int c1), .val (.int c2), .val (.int (p4 &&& (7 : Int32))), .val (.ref b281), .val (.int (0 : Int32)), .unset] [(.int (own_val (3 : Int32) (own_ch3 c0 c1 c2)))]))
              refine EndsW.go (b := T365.setTop (mkF m 294 #[.val (.int p1), .val (.int p2), .val (.int p3), .val (.int p4), .val (.int c0), .val (.int c1), .val (.int c2), .val (.int (p4 &&& (7 : Int32))), .val (.ref b281), .val (.int (0 : Int32)), .unset] [(.int (1 : Int32))])) (fun t k => ?_) ?_
              · show Steps p.tables e below (T365.setTop (mkF m 284 #[.val (.int p1), .val (.int p2), .val (.int p3), .val (.int p4), .val (.int c0), .val (.int c1), .val (.int c2), .val (.int (p4 &&& (7 : Int32))), .val (.ref b281), .val (.int (0 : Int32)), .unset] [(.int (own_val (3 : Int32) (own_ch3 c0 c1 c2)))])) _
                refine XS.iload X365.here hx rfl (hb hby at_284) rfl ?_
                refine XS.icmpNo X365.here hx rfl (hb hby at_286) rfl (teq (own_vZero _ _ (by decide) (by decide) 1 (by decide) c1 rfl hc155_342)).2 ?_
                show Steps p.tables e below (T365.setTop (mkF m 289 #[.val (.int p1), .val (.int p2), .val (.int p3), .val (.int p4), .val (.int c0), .val (.int c1), .val (.int c2), .val (.int (p4 &&& (7 : Int32))), .val (.ref b281), .val (.int (0 : Int32)), .unset] [])) _
                refine XS.iconst X365.here hx rfl (hb hby at_289) ?_
                show Steps p.tables e below (T365.setTop (mkF m 290 #[.val (.int p1), .val (.int p2), .val (.int p3), .val (.int p4), .val (.int c0), .val (.int c1), .val (.int c2), .val (.int (p4 &&& (7 : Int32))), .val (.ref b281), .val (.int (0 : Int32)), .unset] [(.int (1 : Int32))])) _
                refine XS.goto X365.here hx rfl (pc0 := 290) (pc' := 294) rfl (hb hby at_290) (by decide) (by decide) ?_
                exact k
              refine EndsW.retN X365 hS0 (by rw [eq365]; exact f357) hx Bd.notSynchronized (t := .boolean) Bd.returns (by simp) (hb hby at_294) (by decide) (by decide) ?_
              show Q0 Z p1 p2 p3 p4 cs fv h0 n0 (some (.int (nar .boolean (1 : Int32)))) T365.heap _
              rw [eq365]
              exact ⟨rfl, N365⟩
            · refine EndsW.go (b := T341.setTop (mkF m 158 #[.val (.int p1), .val (.int p2), .val (.int p3), .val (.int p4), .val (.int c0), .val (.int c1), .val (.int c2), .val (.int (p4 &&& (7 : Int32))), .val (.ref b281), .unset, .unset] [])) (fun t k => ?_) ?_
              · show Steps p.tables e below (T341.setTop (mkF m 155 #[.val (.int p1), .val (.int p2), .val (.int p3), .val (.int p4), .val (.int c0), .val (.int c1), .val (.int c2), .val (.int (p4 &&& (7 : Int32))), .val (.ref b281), .unset, .unset] [(.int (own_okc c1))])) _
                refine XS.ifNo X341.here hx rfl (hb hby at_155) rfl ((if0 _ _).trans (feq hc155_342).1) ?_
                show Steps p.tables e below (T341.setTop (mkF m 158 #[.val (.int p1), .val (.int p2), .val (.int p3), .val (.int p4), .val (.int c0), .val (.int c1), .val (.int c2), .val (.int (p4 &&& (7 : Int32))), .val (.ref b281), .unset, .unset] [])) _
                exact k
              refine EndsW.go (b := T341.setTop (mkF m 160 #[.val (.int p1), .val (.int p2), .val (.int p3), .val (.int p4), .val (.int c0), .val (.int c1), .val (.int c2), .val (.int (p4 &&& (7 : Int32))), .val (.ref b281), .unset, .unset] [(.int c2)])) (fun t k => ?_) ?_
              · show Steps p.tables e below (T341.setTop (mkF m 158 #[.val (.int p1), .val (.int p2), .val (.int p3), .val (.int p4), .val (.int c0), .val (.int c1), .val (.int c2), .val (.int (p4 &&& (7 : Int32))), .val (.ref b281), .unset, .unset] [])) _
                refine XS.iload X341.here hx rfl (hb hby at_158) rfl ?_
                exact k
              obtain ⟨_, _, ⟨T366, L366, kk366, nn366⟩, -, X366, ⟨Lc366, hQ366, l366, y366, z366⟩, st366⟩ := Jvm.LawKit.callS X341 hx (y := (⟨"com/example/lossfall/lossfall/model/CertificateClassIsValidNamePinLaw", "ok", "(C)Z"⟩ : MethodName)) hown (mvT hZ (own_w hw 2 rfl)) (mvT hZ (own_w hw 3 rfl)) (mvT hZ (own_w hw 4 rfl)) (mvT hZ (own_w hw 5 rfl)) (by decide) (backOf (W := 0) (rm1 l Z a0 hw [] c2 h308 n0 f309 hc2.1) hZ (own_w hw 5 rfl) (own_w hw 4 rfl) (by decide) (by decide)) (g := (mkF m 160 #[.val (.int p1), .val (.int p2), .val (.int p3), .val (.int p4), .val (.int c0), .val (.int c1), .val (.int c2), .val (.int (p4 &&& (7 : Int32))), .val (.ref b281), .unset, .unset] [(.int c2)])) rfl (by rw [hml]; rfl) (argsL := [(.int c2)]) (rest := []) (lenOf pd_18 rfl) rfl (by show 2 * 0 + _ ≤ _; exact Nat.le_of_eq rfl) (hb hby at_160) (fun _ _ => ⟨rfl, eq341, (by decide : 1 + 0 ≤ _), (by decide : 3 + 0 ≤ _)⟩)
              dsimp only [Pt.U, Pt.locs, Pt.cells, Pt.slots] at X366 l366 y366 z366 st366 hQ366
              subst l366 y366 z366
              obtain ⟨rfl, Nq366, eq366⟩ := hQ366
              have N366 := Fr.app N341 Nq366
              refine EndsW.go st366 ?_
              show EndsW _ _ _ _ _ _ _ (T366.setTop (mkF m 163 #[.val (.int p1), .val (.int p2), .val (.int p3), .val (.int p4), .val (.int c0), .val (.int c1), .val (.int c2), .val (.int (p4 &&& (7 : Int32))), .val (.ref b281), .unset, .unset] [(.int (own_okc c2))]))
              by_cases hc163_367 : (own_okc c2) = (0 : Int32)
              · refine EndsW.go (b := T366.setTop (mkF m 170 #[.val (.int p1), .val (.int p2), .val (.int p3), .val (.int p4), .val (.int c0), .val (.int c1), .val (.int c2), .val (.int (p4 &&& (7 : Int32))), .val (.ref b281), .unset, .unset] [])) (fun t k => ?_) ?_
                · show Steps p.tables e below (T366.setTop (mkF m 163 #[.val (.int p1), .val (.int p2), .val (.int p3), .val (.int p4), .val (.int c0), .val (.int c1), .val (.int c2), .val (.int (p4 &&& (7 : Int32))), .val (.ref b281), .unset, .unset] [(.int (own_okc c2))])) _
                  refine XS.ifYes X366.here hx rfl (pc0 := 163) (pc' := 170) rfl (hb hby at_163) rfl ((if0 _ _).trans (teq hc163_367).1) (by decide) (by decide) ?_
                  show Steps p.tables e below (T366.setTop (mkF m 170 #[.val (.int p1), .val (.int p2), .val (.int p3), .val (.int p4), .val (.int c0), .val (.int c1), .val (.int c2), .val (.int (p4 &&& (7 : Int32))), .val (.ref b281), .unset, .unset] [])) _
                  exact k
                refine EndsW.go (b := T366.setTop (mkF m 272 #[.val (.int p1), .val (.int p2), .val (.int p3), .val (.int p4), .val (.int c0), .val (.int c1), .val (.int c2), .val (.int (p4 &&& (7 : Int32))), .val (.ref b281), .val (.int (0 : Int32)), .unset] [])) (fun t k => ?_) ?_
                · show Steps p.tables e below (T366.setTop (mkF m 170 #[.val (.int p1), .val (.int p2), .val (.int p3), .val (.int p4), .val (.int c0), .val (.int c1), .val (.int c2), .val (.int (p4 &&& (7 : Int32))), .val (.ref b281), .unset, .unset] [])) _
                  refine XS.iconst X366.here hx rfl (hb hby at_170) ?_
                  refine XS.istore X366.here hx rfl (hb hby at_171) rfl (l' := #[.val (.int p1), .val (.int p2), .val (.int p3), .val (.int p4), .val (.int c0), .val (.int c1), .val (.int c2), .val (.int (p4 &&& (7 : Int32))), .val (.ref b281), .val (.int (0 : Int32)), .unset]) rfl ?_
                  show Steps p.tables e below (T366.setTop (mkF m 173 #[.val (.int p1), .val (.int p2), .val (.int p3), .val (.int p4), .val (.int c0), .val (.int c1), .val (.int c2), .val (.int (p4 &&& (7 : Int32))), .val (.ref b281), .val (.int (0 : Int32)), .unset] [])) _
                  refine XS.goto X366.here hx rfl (pc0 := 173) (pc' := 272) rfl (hb hby at_173) (by decide) (by decide) ?_
                  exact k
                have Gc368 : Arf Z h308 b281 k281 .char (3 : Int32) (own_cv (own_ch3 c0 c1 c2)) := own_a3 fa308 hc0 hc1 hc2
                obtain ⟨T369, h369, X369, e369, E369, A369, D369, -, st369⟩ := newO X366 hx hZ hown (own_w hw 6 rfl) (own_w hw 7 rfl) (own_w hw 8 rfl) eq366 (g := (mkF m 272 #[.val (.int p1), .val (.int p2), .val (.int p3), .val (.int p4), .val (.int c0), .val (.int c1), .val (.int c2), .val (.int (p4 &&& (7 : Int32))), .val (.ref b281), .val (.int (0 : Int32)), .unset] [])) rfl (hb hby at_272) (by decide) (by decide)
                obtain ⟨b369, g369⟩ : ∃ z, z = h308.size := ⟨_, rfl⟩
                rw [← g369] at A369 D369 st369
                have gn369 : n0 ≤ b369 := Nat.le_trans f309 (Nat.le_of_eq g369.symm)
                have ne369_b281 : b281 ≠ b369 := Nat.ne_of_lt (Nat.lt_of_lt_of_le Gc368.lt (Nat.le_of_eq g369.symm))
                have f370 := Nat.le_trans f309 E369.1
                have f371 := Nat.le_trans f310 E369.1
                have f372 := f311.ext E369
                have f373 := f312.ext E369
                have f374 := f313.ext E369
                have f375 := f314.ext E369
                have f376 := f315.ext E369
                have f377 := Gc368.ext E369
                have f378 : Fld Z h369 b369 "java/lang/String" "coder" "B" (.int (0 : Int32)) := D369 (Or.inr (own_w hw 32 rfl)) (ty := .byte) (by decide)
                have f379 : Fld Z h369 b369 "java/lang/String" "value" "[B" .null := D369 (Or.inr (own_w hw 34 rfl)) (ty := (.array .byte)) (by decide)
                refine EndsW.go st369 ?_
                show EndsW _ _ _ _ _ _ _ (T369.setTop (mkF m 275 #[.val (.int p1), .val (.int p2), .val (.int p3), .val (.int p4), .val (.int c0), .val (.int c1), .val (.int c2), .val (.int (p4 &&& (7 : Int32))), .val (.ref b281), .val (.int (0 : Int32)), .unset] [(.ref b369)]))
                refine EndsW.go (b := T369.setTop (mkF m 278 #[.val (.int p1), .val (.int p2), .val (.int p3), .val (.int p4), .val (.int c0), .val (.int c1), .val (.int c2), .val (.int (p4 &&& (7 : Int32))), .val (.ref b281), .val (.int (0 : Int32)), .unset] [(.ref b281), (.ref b369), (.ref b369)])) (fun t k => ?_) ?_
                · show Steps p.tables e below (T369.setTop (mkF m 275 #[.val (.int p1), .val (.int p2), .val (.int p3), .val (.int p4), .val (.int c0), .val (.int c1), .val (.int c2), .val (.int (p4 &&& (7 : Int32))), .val (.ref b281), .val (.int (0 : Int32)), .unset] [(.ref b369)])) _
                  refine XS.dup X369.here hx rfl (hb hby at_275) rfl rfl ?_
                  refine XS.aload X369.here hx rfl (hb hby at_276) rfl rfl ?_
                  exact k
                obtain ⟨_, _, ⟨T380, L380, kk380, nn380⟩, -, X380, ⟨Lc380, hQ380, l380, y380, z380⟩, st380⟩ := X369.specialBack hx (y := (⟨"java/lang/String", "<init>", "([C)V"⟩ : MethodName)) rfl hown (mvT hZ (own_w hw 9 rfl)) (mvT hZ (own_w hw 10 rfl)) (mvT hZ (own_w hw 11 rfl)) (by decide) (backOf (W := 1) (rm2 l Z a0 hw [] b369 b281 cs fv k281 (3 : Int32) (own_ch3 c0 c1 c2) h369 n0 f370 ⟨f372, hcs, f373, hfv, f374, f375, f376⟩ A369 f379 f378 gn369 (Ne.symm ne369_b281) f377 (by decide) (by decide) (by decide) (own_ch3R c0 c1 c2 hc0 hc1 hc2)) hZ (own_w hw 11 rfl) (own_w hw 8 rfl) (by decide) (by decide)) (g := (mkF m 278 #[.val (.int p1), .val (.int p2), .val (.int p3), .val (.int p4), .val (.int c0), .val (.int c1), .val (.int c2), .val (.int (p4 &&& (7 : Int32))), .val (.ref b281), .val (.int (0 : Int32)), .unset] [(.ref b281), (.ref b369), (.ref b369)])) rfl (by rw [hml]; rfl) (Steps.refl _) (a := b369) (argsL := [(.ref b281)]) (rest := [(.ref b369)]) (lenOf pd_16 rfl) rfl (by show 2 * 0 + _ ≤ _; exact Nat.le_of_eq rfl) (hb hby at_278) (fun _ _ => ⟨rfl, e369, (by decide : 2 + 2 ≤ _), (by decide : 7 + 99 ≤ _)⟩)
                dsimp only [Pt.U, Pt.locs, Pt.cells, Pt.slots] at X380 l380 y380 z380 st380 hQ380
                subst l380 y380 z380
                obtain ⟨rfl, Nq380, K380, Ys380⟩ := hQ380
                have N380 := Fr.app N366 Nq380
                have f381 := Nat.le_trans f370 K380.1
                have f382 := Nat.le_trans f371 K380.1
                have f383 := own_sta_keep f372 K380 A369
                have f384 := own_sta_keep f373 K380 A369
                have f385 := own_sta_keep f374 K380 A369
                have f386 := own_sta_keep f375 K380 A369
                have f387 := own_sta_keep f376 K380 A369
                have f388 := f377.keep K380 (ninS ne369_b281 nin0)
                have f389 := A369.keep K380
                refine EndsW.go (fun t k => st380.trans k) ?_
                show EndsW _ _ _ _ _ _ _ (T380.setTop (mkF m 281 #[.val (.int p1), .val (.int p2), .val (.int p3), .val (.int p4), .val (.int c0), .val (.int c1), .val (.int c2), .val (.int (p4 &&& (7 : Int32))), .val (.ref b281), .val (.int (0 : Int32)), .unset] [(.ref b369)]))
                obtain ⟨_, _, ⟨T390, L390, kk390, nn390⟩, -, X390, ⟨Lc390, hQ390, l390, y390, z390⟩, st390⟩ := Jvm.LawKit.callS X380 hx (y := (⟨"com/example/lossfall/lossfall/model/CertificateClass", "isValidName", "(Ljava/lang/String;)Z"⟩ : MethodName)) hown (mvT hZ (own_w hw 35 rfl)) (mvT hZ (own_w hw 36 rfl)) (mvT hZ (own_w hw 37 rfl)) (mvT hZ (own_w hw 38 rfl)) (by decide) (backOf (W := 0) (rm8 l Z a0 hw [] b369 cs fv (3 : Int32) (own_ch3 c0 c1 c2) T380.heap n0 f381 ⟨f383, hcs, f384, hfv, f385, f386, f387⟩ Ys380 (by decide) (by decide) (own_ch3R c0 c1 c2 hc0 hc1 hc2) Ys380.1) hZ (own_w hw 38 rfl) (own_w hw 37 rfl) (by decide) (by decide)) (g := (mkF m 281 #[.val (.int p1), .val (.int p2), .val (.int p3), .val (.int p4), .val (.int c0), .val (.int c1), .val (.int c2), .val (.int (p4 &&& (7 : Int32))), .val (.ref b281), .val (.int (0 : Int32)), .unset] [(.ref b369)])) rfl (by rw [hml]; rfl) (argsL := [(.ref b369)]) (rest := []) (lenOf pd_17 rfl) rfl (by show 2 * 0 + _ ≤ _; exact Nat.le_of_eq rfl) (hb hby at_281) (fun _ _ => ⟨rfl, rfl, (by decide : 4 + 0 ≤ _), (by decide : 106 + 0 ≤ _)⟩)
                dsimp only [Pt.U, Pt.locs, Pt.cells, Pt.slots] at X390 l390 y390 z390 st390 hQ390
                subst l390 y390 z390
                obtain ⟨rfl, Nq390, eq390⟩ := hQ390
                have N390 := Fr.app N380 Nq390
                refine EndsW.go st390 ?_
                show EndsW _ _ _ _ _ _ _ (T390.setTop (mkF m 284 #[.val (.int p1), .val (.int p2), .val (.int p3), .val (.int p4), .val (.int c0), .val (.int c1), .val (.int c2), .val (.int (p4 &&& (7 : Int32))), .val (.ref b281), .val (.int (0 : Int32)), .unset] [(.int (own_val (3 : Int32) (own_ch3 c0 c1 c2)))]))
                refine EndsW.go (b := T390.setTop (mkF m 294 #[.val (.int p1), .val (.int p2), .val (.int p3), .val (.int p4), .val (.int c0), .val (.int c1), .val (.int c2), .val (.int (p4 &&& (7 : Int32))), .val (.ref b281), .val (.int (0 : Int32)), .unset] [(.int (1 : Int32))])) (fun t k => ?_) ?_
                · show Steps p.tables e below (T390.setTop (mkF m 284 #[.val (.int p1), .val (.int p2), .val (.int p3), .val (.int p4), .val (.int c0), .val (.int c1), .val (.int c2), .val (.int (p4 &&& (7 : Int32))), .val (.ref b281), .val (.int (0 : Int32)), .unset] [(.int (own_val (3 : Int32) (own_ch3 c0 c1 c2)))])) _
                  refine XS.iload X390.here hx rfl (hb hby at_284) rfl ?_
                  show Steps p.tables e below (T390.setTop (mkF m 286 #[.val (.int p1), .val (.int p2), .val (.int p3), .val (.int p4), .val (.int c0), .val (.int c1), .val (.int c2), .val (.int (p4 &&& (7 : Int32))), .val (.ref b281), .val (.int (0 : Int32)), .unset] [(.int (0 : Int32)), (.int (own_val (3 : Int32) (own_ch3 c0 c1 c2)))])) _
                  refine XS.icmpNo X390.here hx rfl (hb hby at_286) rfl (teq (own_vZero _ _ (by decide) (by decide) 2 (by decide) c2 rfl hc163_367)).2 ?_
                  show Steps p.tables e below (T390.setTop (mkF m 289 #[.val (.int p1), .val (.int p2), .val (.int p3), .val (.int p4), .val (.int c0), .val (.int c1), .val (.int c2), .val (.int (p4 &&& (7 : Int32))), .val (.ref b281), .val (.int (0 : Int32)), .unset] [])) _
                  refine XS.iconst X390.here hx rfl (hb hby at_289) ?_
                  refine XS.goto X390.here hx rfl (pc0 := 290) (pc' := 294) rfl (hb hby at_290) (by decide) (by decide) ?_
                  exact k
                refine EndsW.retN X390 hS0 (by rw [eq390]; exact f382) hx Bd.notSynchronized (t := .boolean) Bd.returns (by simp) (hb hby at_294) (by decide) (by decide) ?_
                show Q0 Z p1 p2 p3 p4 cs fv h0 n0 (some (.int (nar .boolean (1 : Int32)))) T390.heap _
                rw [eq390]
                exact ⟨rfl, N390⟩
              · refine EndsW.go (b := T366.setTop (mkF m 166 #[.val (.int p1), .val (.int p2), .val (.int p3), .val (.int p4), .val (.int c0), .val (.int c1), .val (.int c2), .val (.int (p4 &&& (7 : Int32))), .val (.ref b281), .unset, .unset] [])) (fun t k => ?_) ?_
                · show Steps p.tables e below (T366.setTop (mkF m 163 #[.val (.int p1), .val (.int p2), .val (.int p3), .val (.int p4), .val (.int c0), .val (.int c1), .val (.int c2), .val (.int (p4 &&& (7 : Int32))), .val (.ref b281), .unset, .unset] [(.int (own_okc c2))])) _
                  refine XS.ifNo X366.here hx rfl (hb hby at_163) rfl ((if0 _ _).trans (feq hc163_367).1) ?_
                  show Steps p.tables e below (T366.setTop (mkF m 166 #[.val (.int p1), .val (.int p2), .val (.int p3), .val (.int p4), .val (.int c0), .val (.int c1), .val (.int c2), .val (.int (p4 &&& (7 : Int32))), .val (.ref b281), .unset, .unset] [])) _
                  exact k
                refine EndsW.go (b := T366.setTop (mkF m 272 #[.val (.int p1), .val (.int p2), .val (.int p3), .val (.int p4), .val (.int c0), .val (.int c1), .val (.int c2), .val (.int (p4 &&& (7 : Int32))), .val (.ref b281), .val (.int (1 : Int32)), .unset] [])) (fun t k => ?_) ?_
                · show Steps p.tables e below (T366.setTop (mkF m 166 #[.val (.int p1), .val (.int p2), .val (.int p3), .val (.int p4), .val (.int c0), .val (.int c1), .val (.int c2), .val (.int (p4 &&& (7 : Int32))), .val (.ref b281), .unset, .unset] [])) _
                  refine XS.iconst X366.here hx rfl (hb hby at_166) ?_
                  refine XS.goto X366.here hx rfl (pc0 := 167) (pc' := 171) rfl (hb hby at_167) (by decide) (by decide) ?_
                  show Steps p.tables e below (T366.setTop (mkF m 171 #[.val (.int p1), .val (.int p2), .val (.int p3), .val (.int p4), .val (.int c0), .val (.int c1), .val (.int c2), .val (.int (p4 &&& (7 : Int32))), .val (.ref b281), .unset, .unset] [(.int (1 : Int32))])) _
                  refine XS.istore X366.here hx rfl (hb hby at_171) rfl (l' := #[.val (.int p1), .val (.int p2), .val (.int p3), .val (.int p4), .val (.int c0), .val (.int c1), .val (.int c2), .val (.int (p4 &&& (7 : Int32))), .val (.ref b281), .val (.int (1 : Int32)), .unset]) rfl ?_
                  refine XS.goto X366.here hx rfl (pc0 := 173) (pc' := 272) rfl (hb hby at_173) (by decide) (by decide) ?_
                  exact k
                have Gc391 : Arf Z h308 b281 k281 .char (3 : Int32) (own_cv (own_ch3 c0 c1 c2)) := own_a3 fa308 hc0 hc1 hc2
                obtain ⟨T392, h392, X392, e392, E392, A392, D392, -, st392⟩ := newO X366 hx hZ hown (own_w hw 6 rfl) (own_w hw 7 rfl) (own_w hw 8 rfl) eq366 (g := (mkF m 272 #[.val (.int p1), .val (.int p2), .val (.int p3), .val (.int p4), .val (.int c0), .val (.int c1), .val (.int c2), .val (.int (p4 &&& (7 : Int32))), .val (.ref b281), .val (.int (1 : Int32)), .unset] [])) rfl (hb hby at_272) (by decide) (by decide)
                obtain ⟨b392, g392⟩ : ∃ z, z = h308.size := ⟨_, rfl⟩
                rw [← g392] at A392 D392 st392
                have gn392 : n0 ≤ b392 := Nat.le_trans f309 (Nat.le_of_eq g392.symm)
                have ne392_b281 : b281 ≠ b392 := Nat.ne_of_lt (Nat.lt_of_lt_of_le Gc391.lt (Nat.le_of_eq g392.symm))
                have f393 := Nat.le_trans f309 E392.1
                have f394 := Nat.le_trans f310 E392.1
                have f395 := f311.ext E392
                have f396 := f312.ext E392
                have f397 := f313.ext E392
                have f398 := f314.ext E392
                have f399 := f315.ext E392
                have f400 := Gc391.ext E392
                have f401 : Fld Z h392 b392 "java/lang/String" "coder" "B" (.int (0 : Int32)) := D392 (Or.inr (own_w hw 32 rfl)) (ty := .byte) (by decide)
                have f402 : Fld Z h392 b392 "java/lang/String" "value" "[B" .null := D392 (Or.inr (own_w hw 34 rfl)) (ty := (.array .byte)) (by decide)
                refine EndsW.go st392 ?_
                show EndsW _ _ _ _ _ _ _ (T392.setTop (mkF m 275 #[.val (.int p1), .val (.int p2), .val (.int p3), .val (.int p4), .val (.int c0), .val (.int c1), .val (.int c2), .val (.int (p4 &&& (7 : Int32))), .val (.ref b281), .val (.int (1 : Int32)), .unset] [(.ref b392)]))
                refine EndsW.go (b := T392.setTop (mkF m 278 #[.val (.int p1), .val (.int p2), .val (.int p3), .val (.int p4), .val (.int c0), .val (.int c1), .val (.int c2), .val (.int (p4 &&& (7 : Int32))), .val (.ref b281), .val (.int (1 : Int32)), .unset] [(.ref b281), (.ref b392), (.ref b392)])) (fun t k => ?_) ?_
                · show Steps p.tables e below (T392.setTop (mkF m 275 #[.val (.int p1), .val (.int p2), .val (.int p3), .val (.int p4), .val (.int c0), .val (.int c1), .val (.int c2), .val (.int (p4 &&& (7 : Int32))), .val (.ref b281), .val (.int (1 : Int32)), .unset] [(.ref b392)])) _
                  refine XS.dup X392.here hx rfl (hb hby at_275) rfl rfl ?_
                  refine XS.aload X392.here hx rfl (hb hby at_276) rfl rfl ?_
                  show Steps p.tables e below (T392.setTop (mkF m 278 #[.val (.int p1), .val (.int p2), .val (.int p3), .val (.int p4), .val (.int c0), .val (.int c1), .val (.int c2), .val (.int (p4 &&& (7 : Int32))), .val (.ref b281), .val (.int (1 : Int32)), .unset] [(.ref b281), (.ref b392), (.ref b392)])) _
                  exact k
                obtain ⟨_, _, ⟨T403, L403, kk403, nn403⟩, -, X403, ⟨Lc403, hQ403, l403, y403, z403⟩, st403⟩ := X392.specialBack hx (y := (⟨"java/lang/String", "<init>", "([C)V"⟩ : MethodName)) rfl hown (mvT hZ (own_w hw 9 rfl)) (mvT hZ (own_w hw 10 rfl)) (mvT hZ (own_w hw 11 rfl)) (by decide) (backOf (W := 1) (rm2 l Z a0 hw [] b392 b281 cs fv k281 (3 : Int32) (own_ch3 c0 c1 c2) h392 n0 f393 ⟨f395, hcs, f396, hfv, f397, f398, f399⟩ A392 f402 f401 gn392 (Ne.symm ne392_b281) f400 (by decide) (by decide) (by decide) (own_ch3R c0 c1 c2 hc0 hc1 hc2)) hZ (own_w hw 11 rfl) (own_w hw 8 rfl) (by decide) (by decide)) (g := (mkF m 278 #[.val (.int p1), .val (.int p2), .val (.int p3), .val (.int p4), .val (.int c0), .val (.int c1), .val (.int c2), .val (.int (p4 &&& (7 : Int32))), .val (.ref b281), .val (.int (1 : Int32)), .unset] [(.ref b281), (.ref b392), (.ref b392)])) rfl (by rw [hml]; rfl) (Steps.refl _) (a := b392) (argsL := [(.ref b281)]) (rest := [(.ref b392)]) (lenOf pd_16 rfl) rfl (by show 2 * 0 + _ ≤ _; exact Nat.le_of_eq rfl) (hb hby at_278) (fun _ _ => ⟨rfl, e392, (by decide : 2 + 2 ≤ _), (by decide : 7 + 99 ≤ _)⟩)
                dsimp only [Pt.U, Pt.locs, Pt.cells, Pt.slots] at X403 l403 y403 z403 st403 hQ403
                subst l403 y403 z403
                obtain ⟨rfl, Nq403, K403, Ys403⟩ := hQ403
                have N403 := Fr.app N366 Nq403
                have f404 := Nat.le_trans f393 K403.1
                have f405 := Nat.le_trans f394 K403.1
                have f406 := own_sta_keep f395 K403 A392
                have f407 := own_sta_keep f396 K403 A392
                have f408 := own_sta_keep f397 K403 A392
                have f409 := own_sta_keep f398 K403 A392
                have f410 := own_sta_keep f399 K403 A392
                have f411 := f400.keep K403 (ninS ne392_b281 nin0)
                have f412 := A392.keep K403
                refine EndsW.go (fun t k => st403.trans k) ?_
                show EndsW _ _ _ _ _ _ _ (T403.setTop (mkF m 281 #[.val (.int p1), .val (.int p2), .val (.int p3), .val (.int p4), .val (.int c0), .val (.int c1), .val (.int c2), .val (.int (p4 &&& (7 : Int32))), .val (.ref b281), .val (.int (1 : Int32)), .unset] [(.ref b392)]))
                obtain ⟨_, _, ⟨T413, L413, kk413, nn413⟩, -, X413, ⟨Lc413, hQ413, l413, y413, z413⟩, st413⟩ := Jvm.LawKit.callS X403 hx (y := (⟨"com/example/lossfall/lossfall/model/CertificateClass", "isValidName", "(Ljava/lang/String;)Z"⟩ : MethodName)) hown (mvT hZ (own_w hw 35 rfl)) (mvT hZ (own_w hw 36 rfl)) (mvT hZ (own_w hw 37 rfl)) (mvT hZ (own_w hw 38 rfl)) (by decide) (backOf (W := 0) (rm8 l Z a0 hw [] b392 cs fv (3 : Int32) (own_ch3 c0 c1 c2) T403.heap n0 f404 ⟨f406, hcs, f407, hfv, f408, f409, f410⟩ Ys403 (by decide) (by decide) (own_ch3R c0 c1 c2 hc0 hc1 hc2) Ys403.1) hZ (own_w hw 38 rfl) (own_w hw 37 rfl) (by decide) (by decide)) (g := (mkF m 281 #[.val (.int p1), .val (.int p2), .val (.int p3), .val (.int p4), .val (.int c0), .val (.int c1), .val (.int c2), .val (.int (p4 &&& (7 : Int32))), .val (.ref b281), .val (.int (1 : Int32)), .unset] [(.ref b392)])) rfl (by rw [hml]; rfl) (argsL := [(.ref b392)]) (rest := []) (lenOf pd_17 rfl) rfl (by show 2 * 0 + _ ≤ _; exact Nat.le_of_eq rfl) (hb hby at_281) (fun _ _ => ⟨rfl, rfl, (by decide : 4 + 0 ≤ _), (by decide : 106 + 0 ≤ _)⟩)
                dsimp only [Pt.U, Pt.locs, Pt.cells, Pt.slots] at X413 l413 y413 z413 st413 hQ413
                subst l413 y413 z413
                obtain ⟨rfl, Nq413, eq413⟩ := hQ413
                have N413 := Fr.app N403 Nq413
                refine EndsW.go st413 ?_
                show EndsW _ _ _ _ _ _ _ (T413.setTop (mkF m 284 #[.val (.int p1), .val (.int p2), .val (.int p3), .val (.int p4), .val (.int c0), .val (.int c1), .val (.int c2), .val (.int (p4 &&& (7 : Int32))), .val (.ref b281), .val (.int (1 : Int32)), .unset] [(.int (own_val (3 : Int32) (own_ch3 c0 c1 c2)))]))
                refine EndsW.go (b := T413.setTop (mkF m 294 #[.val (.int p1), .val (.int p2), .val (.int p3), .val (.int p4), .val (.int c0), .val (.int c1), .val (.int c2), .val (.int (p4 &&& (7 : Int32))), .val (.ref b281), .val (.int (1 : Int32)), .unset] [(.int (1 : Int32))])) (fun t k => ?_) ?_
                · show Steps p.tables e below (T413.setTop (mkF m 284 #[.val (.int p1), .val (.int p2), .val (.int p3), .val (.int p4), .val (.int c0), .val (.int c1), .val (.int c2), .val (.int (p4 &&& (7 : Int32))), .val (.ref b281), .val (.int (1 : Int32)), .unset] [(.int (own_val (3 : Int32) (own_ch3 c0 c1 c2)))])) _
                  refine XS.iload X413.here hx rfl (hb hby at_284) rfl ?_
                  refine XS.icmpNo X413.here hx rfl (hb hby at_286) rfl (teq (own_vOne _ _ (by decide) (by decide) (fun j hj => own_v3 c0 c1 c2 j (own_okn _ hc147_317) (Or.inl (own_okn _ hc155_342)) (Or.inl (own_okn _ hc163_367))))).2 ?_
                  show Steps p.tables e below (T413.setTop (mkF m 289 #[.val (.int p1), .val (.int p2), .val (.int p3), .val (.int p4), .val (.int c0), .val (.int c1), .val (.int c2), .val (.int (p4 &&& (7 : Int32))), .val (.ref b281), .val (.int (1 : Int32)), .unset] [])) _
                  refine XS.iconst X413.here hx rfl (hb hby at_289) ?_
                  refine XS.goto X413.here hx rfl (pc0 := 290) (pc' := 294) rfl (hb hby at_290) (by decide) (by decide) ?_
                  exact k
                refine EndsW.retN X413 hS0 (by rw [eq413]; exact f405) hx Bd.notSynchronized (t := .boolean) Bd.returns (by simp) (hb hby at_294) (by decide) (by decide) ?_
                show Q0 Z p1 p2 p3 p4 cs fv h0 n0 (some (.int (nar .boolean (1 : Int32)))) T413.heap _
                rw [eq413]
                exact ⟨rfl, N413⟩
        · refine EndsW.go (b := s₁.setTop (mkF m 176 #[.val (.int p1), .val (.int p2), .val (.int p3), .val (.int p4), .val (.int c0), .val (.int c1), .val (.int c2), .val (.int (p4 &&& (7 : Int32))), .unset, .unset, .unset] [])) (fun t k => ?_) ?_
          · show Steps p.tables e below (s₁.setTop (mkF m 119 #[.val (.int p1), .val (.int p2), .val (.int p3), .val (.int p4), .val (.int c0), .val (.int c1), .val (.int c2), .val (.int (p4 &&& (7 : Int32))), .unset, .unset, .unset] [(.int (3 : Int32)), (.int (p4 &&& (7 : Int32)))])) _
            refine XS.icmpYes X0.here hx rfl (pc0 := 119) (pc' := 176) rfl (hb hby at_119) rfl (feq hc119_280).2 (by decide) (by decide) ?_
            show Steps p.tables e below (s₁.setTop (mkF m 176 #[.val (.int p1), .val (.int p2), .val (.int p3), .val (.int p4), .val (.int c0), .val (.int c1), .val (.int c2), .val (.int (p4 &&& (7 : Int32))), .unset, .unset, .unset] [])) _
            exact k
          refine EndsW.go (b := s₁.setTop (mkF m 179 #[.val (.int p1), .val (.int p2), .val (.int p3), .val (.int p4), .val (.int c0), .val (.int c1), .val (.int c2), .val (.int (p4 &&& (7 : Int32))), .unset, .unset, .unset] [(.int (4 : Int32)), (.int (p4 &&& (7 : Int32)))])) (fun t k => ?_) ?_
          · show Steps p.tables e below (s₁.setTop (mkF m 176 #[.val (.int p1), .val (.int p2), .val (.int p3), .val (.int p4), .val (.int c0), .val (.int c1), .val (.int c2), .val (.int (p4 &&& (7 : Int32))), .unset, .unset, .unset] [])) _
            refine XS.iload X0.here hx rfl (hb hby at_176) rfl ?_
            show Steps p.tables e below (s₁.setTop (mkF m 178 #[.val (.int p1), .val (.int p2), .val (.int p3), .val (.int p4), .val (.int c0), .val (.int c1), .val (.int c2), .val (.int (p4 &&& (7 : Int32))), .unset, .unset, .unset] [(.int (p4 &&& (7 : Int32)))])) _
            refine XS.iconst X0.here hx rfl (hb hby at_178) ?_
            exact k
          by_cases hc179_414 : (p4 &&& (7 : Int32)) = (4 : Int32)
          · refine EndsW.go (b := s₁.setTop (mkF m 182 #[.val (.int p1), .val (.int p2), .val (.int p3), .val (.int p4), .val (.int c0), .val (.int c1), .val (.int c2), .val (.int (p4 &&& (7 : Int32))), .unset, .unset, .unset] [])) (fun t k => ?_) ?_
            · show Steps p.tables e below (s₁.setTop (mkF m 179 #[.val (.int p1), .val (.int p2), .val (.int p3), .val (.int p4), .val (.int c0), .val (.int c1), .val (.int c2), .val (.int (p4 &&& (7 : Int32))), .unset, .unset, .unset] [(.int (4 : Int32)), (.int (p4 &&& (7 : Int32)))])) _
              refine XS.icmpNo X0.here hx rfl (hb hby at_179) rfl (teq hc179_414).2 ?_
              show Steps p.tables e below (s₁.setTop (mkF m 182 #[.val (.int p1), .val (.int p2), .val (.int p3), .val (.int p4), .val (.int c0), .val (.int c1), .val (.int c2), .val (.int (p4 &&& (7 : Int32))), .unset, .unset, .unset] [])) _
              exact k
            refine EndsW.go (b := s₁.setTop (mkF m 205 #[.val (.int p1), .val (.int p2), .val (.int p3), .val (.int p4), .val (.int c0), .val (.int c1), .val (.int c2), .val (.int (p4 &&& (7 : Int32))), .unset, .unset, .val (.int (31 : Int32))] [(.int (31 : Int32))])) (fun t k => ?_) ?_
            · show Steps p.tables e below (s₁.setTop (mkF m 182 #[.val (.int p1), .val (.int p2), .val (.int p3), .val (.int p4), .val (.int c0), .val (.int c1), .val (.int c2), .val (.int (p4 &&& (7 : Int32))), .unset, .unset, .unset] [])) _
              refine XS.bipush X0.here hx rfl (hb hby at_182) ?_
              refine XS.goto X0.here hx rfl (pc0 := 184) (pc' := 201) rfl (hb hby at_184) (by decide) (by decide) ?_
              refine XS.istore X0.here hx rfl (hb hby at_201) rfl (l' := #[.val (.int p1), .val (.int p2), .val (.int p3), .val (.int p4), .val (.int c0), .val (.int c1), .val (.int c2), .val (.int (p4 &&& (7 : Int32))), .unset, .unset, .val (.int (31 : Int32))]) rfl ?_
              show Steps p.tables e below (s₁.setTop (mkF m 203 #[.val (.int p1), .val (.int p2), .val (.int p3), .val (.int p4), .val (.int c0), .val (.int c1), .val (.int c2), .val (.int (p4 &&& (7 : Int32))), .unset, .unset, .val (.int (31 : Int32))] [])) _
              refine XS.iload X0.here hx rfl (hb hby at_203) rfl ?_
              exact k
            obtain ⟨_, _, ⟨T415, L415, kk415, nn415⟩, -, X415, ⟨Lc415, hQ415, l415, y415, z415⟩, st415⟩ := Jvm.LawKit.callS X0 hx (y := (⟨"com/example/lossfall/lossfall/model/CertificateClassIsValidNamePinLaw", "base", "(I)[C"⟩ : MethodName)) hown (mvT hZ (own_w hw 79 rfl)) (mvT hZ (own_w hw 80 rfl)) (mvT hZ (own_w hw 4 rfl)) (mvT hZ (own_w hw 81 rfl)) (by decide) (backOf (W := 0) (rmB31 l Z a0 hw [] h0 n0 Z0) hZ (own_w hw 81 rfl) (own_w hw 4 rfl) (by decide) (by decide)) (g := (mkF m 205 #[.val (.int p1), .val (.int p2), .val (.int p3), .val (.int p4), .val (.int c0), .val (.int c1), .val (.int c2), .val (.int (p4 &&& (7 : Int32))), .unset, .unset, .val (.int (31 : Int32))] [(.int (31 : Int32))])) rfl (by rw [hml]; rfl) (argsL := [(.int (31 : Int32))]) (rest := []) (lenOf pd_19 rfl) rfl (by show 2 * 0 + _ ≤ _; exact Nat.le_of_eq rfl) (hb hby at_205) (fun _ _ => ⟨rfl, e0, (by decide : 0 + 1 ≤ _), (by decide : 0 + 33 ≤ _)⟩)
            dsimp only [Pt.U, Pt.locs, Pt.cells, Pt.slots] at X415 l415 y415 z415 st415 hQ415
            subst l415 y415 z415
            obtain ⟨b415, kb415, rfl, Nq415, K415, hb415, G415⟩ := hQ415
            have N415 := Fr.app N0 Nq415
            have gn415 : n0 ≤ b415 := Nat.le_trans Z0 hb415
            have f416 := Nat.le_trans Z0 K415.1
            have f417 := Nat.le_trans hk0 K415.1
            have f419 := own_sta_keep0 S_C K415
            have f420 := own_sta_keep0 S_F K415
            have f421 := own_sta_keep0 S_A K415
            have f422 := own_sta_keep0 S_H K415
            have f423 := own_sta_keep0 S_L K415
            refine EndsW.go st415 ?_
            show EndsW _ _ _ _ _ _ _ (T415.setTop (mkF m 208 #[.val (.int p1), .val (.int p2), .val (.int p3), .val (.int p4), .val (.int c0), .val (.int c1), .val (.int c2), .val (.int (p4 &&& (7 : Int32))), .unset, .unset, .val (.int (31 : Int32))] [(.ref b415)]))
            refine EndsW.go (b := T415.setTop (mkF m 215 #[.val (.int p1), .val (.int p2), .val (.int p3), .val (.int p4), .val (.int c0), .val (.int c1), .val (.int c2), .val (.int (p4 &&& (7 : Int32))), .val (.ref b415), .unset, .val (.int (31 : Int32))] [(.int c0), (.int (0 : Int32)), (.ref b415)])) (fun t k => ?_) ?_
            · show Steps p.tables e below (T415.setTop (mkF m 208 #[.val (.int p1), .val (.int p2), .val (.int p3), .val (.int p4), .val (.int c0), .val (.int c1), .val (.int c2), .val (.int (p4 &&& (7 : Int32))), .unset, .unset, .val (.int (31 : Int32))] [(.ref b415)])) _
              refine XS.astore X415.here hx rfl (hb hby at_208) rfl rfl (l' := #[.val (.int p1), .val (.int p2), .val (.int p3), .val (.int p4), .val (.int c0), .val (.int c1), .val (.int c2), .val (.int (p4 &&& (7 : Int32))), .val (.ref b415), .unset, .val (.int (31 : Int32))]) rfl ?_
              refine XS.aload X415.here hx rfl (hb hby at_210) rfl rfl ?_
              refine XS.iconst X415.here hx rfl (hb hby at_212) ?_
              show Steps p.tables e below (T415.setTop (mkF m 213 #[.val (.int p1), .val (.int p2), .val (.int p3), .val (.int p4), .val (.int c0), .val (.int c1), .val (.int c2), .val (.int (p4 &&& (7 : Int32))), .val (.ref b415), .unset, .val (.int (31 : Int32))] [(.int (0 : Int32)), (.ref b415)])) _
              refine XS.iload X415.here hx rfl (hb hby at_213) rfl ?_
              exact k
            obtain ⟨cl424, Ar424, q424, S424, M424, H424, G424⟩ := id G415
            have hin424 : ¬ ((0 : Int32) < 0 ∨ cl424.slots.size ≤ ((0 : Int32)).toNatClampNeg) := inb_of S424 ⟨by decide, by decide⟩
            obtain ⟨T424, h424, X424, e424, W424, st424⟩ := stC X415 hx hZ rfl Ar424 (j := (0 : Int32)) hin424 (g := (mkF m 215 #[.val (.int p1), .val (.int p2), .val (.int p3), .val (.int p4), .val (.int c0), .val (.int c1), .val (.int c2), .val (.int (p4 &&& (7 : Int32))), .val (.ref b415), .unset, .val (.int (31 : Int32))] [(.int c0), (.int (0 : Int32)), (.ref b415)])) rfl rfl (hb hby at_215)
            have fa424 := Arf.set (v := .int (nar .char c0)) Ar424 q424 S424 M424 H424 G424 (fits_nar_char c0) W424
            have f425 := Nat.le_trans f416 (Keep.of_wr W424).1
            have f426 := Nat.le_trans f417 (Keep.of_wr W424).1
            have f427 := f419.wr W424
            have f428 := f420.wr W424
            have f429 := f421.wr W424
            have f430 := f422.wr W424
            have f431 := f423.wr W424
            have N424 := Fr.snoc X424 N415 gn415
            refine EndsW.go st424 ?_
            show EndsW _ _ _ _ _ _ _ (T424.setTop (mkF m 216 #[.val (.int p1), .val (.int p2), .val (.int p3), .val (.int p4), .val (.int c0), .val (.int c1), .val (.int c2), .val (.int (p4 &&& (7 : Int32))), .val (.ref b415), .unset, .val (.int (31 : Int32))] []))
            refine EndsW.go (b := T424.setTop (mkF m 224 #[.val (.int p1), .val (.int p2), .val (.int p3), .val (.int p4), .val (.int c0), .val (.int c1), .val (.int c2), .val (.int (p4 &&& (7 : Int32))), .val (.ref b415), .unset, .val (.int (31 : Int32))] [(.int c1), (.int (15 : Int32)), (.ref b415)])) (fun t k => ?_) ?_
            · show Steps p.tables e below (T424.setTop (mkF m 216 #[.val (.int p1), .val (.int p2), .val (.int p3), .val (.int p4), .val (.int c0), .val (.int c1), .val (.int c2), .val (.int (p4 &&& (7 : Int32))), .val (.ref b415), .unset, .val (.int (31 : Int32))] [])) _
              refine XS.aload X424.here hx rfl (hb hby at_216) rfl rfl ?_
              refine XS.iload X424.here hx rfl (hb hby at_218) rfl ?_
              refine XS.iconst X424.here hx rfl (hb hby at_220) ?_
              show Steps p.tables e below (T424.setTop (mkF m 221 #[.val (.int p1), .val (.int p2), .val (.int p3), .val (.int p4), .val (.int c0), .val (.int c1), .val (.int c2), .val (.int (p4 &&& (7 : Int32))), .val (.ref b415), .unset, .val (.int (31 : Int32))] [(.int (2 : Int32)), (.int (31 : Int32)), (.ref b415)])) _
              refine XS.idiv X424.here hx rfl (hb hby at_221) rfl (by decide) ?_
              show Steps p.tables e below (T424.setTop (mkF m 222 #[.val (.int p1), .val (.int p2), .val (.int p3), .val (.int p4), .val (.int c0), .val (.int c1), .val (.int c2), .val (.int (p4 &&& (7 : Int32))), .val (.ref b415), .unset, .val (.int (31 : Int32))] [(.int ((31 : Int32) / (2 : Int32))), (.ref b415)])) _
              rw [(by decide : ((31 : Int32) / (2 : Int32)) = (15 : Int32))]
              show Steps p.tables e below (T424.setTop (mkF m 222 #[.val (.int p1), .val (.int p2), .val (.int p3), .val (.int p4), .val (.int c0), .val (.int c1), .val (.int c2), .val (.int (p4 &&& (7 : Int32))), .val (.ref b415), .unset, .val (.int (31 : Int32))] [(.int (15 : Int32)), (.ref b415)])) _
              refine XS.iload X424.here hx rfl (hb hby at_222) rfl ?_
              exact k
            obtain ⟨cl432, Ar432, q432, S432, M432, H432, G432⟩ := id fa424
            have hin432 : ¬ ((15 : Int32) < 0 ∨ cl432.slots.size ≤ ((15 : Int32)).toNatClampNeg) := inb_of S432 ⟨by decide, by decide⟩
            obtain ⟨T432, h432, X432, e432, W432, st432⟩ := stC X424 hx hZ e424 Ar432 (j := (15 : Int32)) hin432 (g := (mkF m 224 #[.val (.int p1), .val (.int p2), .val (.int p3), .val (.int p4), .val (.int c0), .val (.int c1), .val (.int c2), .val (.int (p4 &&& (7 : Int32))), .val (.ref b415), .unset, .val (.int (31 : Int32))] [(.int c1), (.int (15 : Int32)), (.ref b415)])) rfl rfl (hb hby at_224)
            have fa432 := Arf.set (v := .int (nar .char c1)) Ar432 q432 S432 M432 H432 G432 (fits_nar_char c1) W432
            have f433 := Nat.le_trans f425 (Keep.of_wr W432).1
            have f434 := Nat.le_trans f426 (Keep.of_wr W432).1
            have f435 := f427.wr W432
            have f436 := f428.wr W432
            have f437 := f429.wr W432
            have f438 := f430.wr W432
            have f439 := f431.wr W432
            have N432 := Fr.snoc X432 N424 gn415
            refine EndsW.go st432 ?_
            show EndsW _ _ _ _ _ _ _ (T432.setTop (mkF m 225 #[.val (.int p1), .val (.int p2), .val (.int p3), .val (.int p4), .val (.int c0), .val (.int c1), .val (.int c2), .val (.int (p4 &&& (7 : Int32))), .val (.ref b415), .unset, .val (.int (31 : Int32))] []))
            refine EndsW.go (b := T432.setTop (mkF m 233 #[.val (.int p1), .val (.int p2), .val (.int p3), .val (.int p4), .val (.int c0), .val (.int c1), .val (.int c2), .val (.int (p4 &&& (7 : Int32))), .val (.ref b415), .unset, .val (.int (31 : Int32))] [(.int c2), (.int (30 : Int32)), (.ref b415)])) (fun t k => ?_) ?_
            · show Steps p.tables e below (T432.setTop (mkF m 225 #[.val (.int p1), .val (.int p2), .val (.int p3), .val (.int p4), .val (.int c0), .val (.int c1), .val (.int c2), .val (.int (p4 &&& (7 : Int32))), .val (.ref b415), .unset, .val (.int (31 : Int32))] [])) _
              refine XS.aload X432.here hx rfl (hb hby at_225) rfl rfl ?_
              refine XS.iload X432.here hx rfl (hb hby at_227) rfl ?_
              show Steps p.tables e below (T432.setTop (mkF m 229 #[.val (.int p1), .val (.int p2), .val (.int p3), .val (.int p4), .val (.int c0), .val (.int c1), .val (.int c2), .val (.int (p4 &&& (7 : Int32))), .val (.ref b415), .unset, .val (.int (31 : Int32))] [(.int (31 : Int32)), (.ref b415)])) _
              refine XS.iconst X432.here hx rfl (hb hby at_229) ?_
              refine XS.isub X432.here hx rfl (hb hby at_230) rfl ?_
              show Steps p.tables e below (T432.setTop (mkF m 231 #[.val (.int p1), .val (.int p2), .val (.int p3), .val (.int p4), .val (.int c0), .val (.int c1), .val (.int c2), .val (.int (p4 &&& (7 : Int32))), .val (.ref b415), .unset, .val (.int (31 : Int32))] [(.int ((31 : Int32) - (1 : Int32))), (.ref b415)])) _
              rw [(by decide : ((31 : Int32) - (1 : Int32)) = (30 : Int32))]
              show Steps p.tables e below (T432.setTop (mkF m 231 #[.val (.int p1), .val (.int p2), .val (.int p3), .val (.int p4), .val (.int c0), .val (.int c1), .val (.int c2), .val (.int (p4 &&& (7 : Int32))), .val (.ref b415), .unset, .val (.int (31 : Int32))] [(.int (30 : Int32)), (.ref b415)])) _
              refine XS.iload X432.here hx rfl (hb hby at_231) rfl ?_
              exact k
            obtain ⟨cl440, Ar440, q440, S440, M440, H440, G440⟩ := id fa432
            have hin440 : ¬ ((30 : Int32) < 0 ∨ cl440.slots.size ≤ ((30 : Int32)).toNatClampNeg) := inb_of S440 ⟨by decide, by decide⟩
            obtain ⟨T440, h440, X440, e440, W440, st440⟩ := stC X432 hx hZ e432 Ar440 (j := (30 : Int32)) hin440 (g := (mkF m 233 #[.val (.int p1), .val (.int p2), .val (.int p3), .val (.int p4), .val (.int c0), .val (.int c1), .val (.int c2), .val (.int (p4 &&& (7 : Int32))), .val (.ref b415), .unset, .val (.int (31 : Int32))] [(.int c2), (.int (30 : Int32)), (.ref b415)])) rfl rfl (hb hby at_233)
            have fa440 := Arf.set (v := .int (nar .char c2)) Ar440 q440 S440 M440 H440 G440 (fits_nar_char c2) W440
            have f441 := Nat.le_trans f433 (Keep.of_wr W440).1
            have f442 := Nat.le_trans f434 (Keep.of_wr W440).1
            have f443 := f435.wr W440
            have f444 := f436.wr W440
            have f445 := f437.wr W440
            have f446 := f438.wr W440
            have f447 := f439.wr W440
            have N440 := Fr.snoc X440 N432 gn415
            refine EndsW.go st440 ?_
            show EndsW _ _ _ _ _ _ _ (T440.setTop (mkF m 234 #[.val (.int p1), .val (.int p2), .val (.int p3), .val (.int p4), .val (.int c0), .val (.int c1), .val (.int c2), .val (.int (p4 &&& (7 : Int32))), .val (.ref b415), .unset, .val (.int (31 : Int32))] []))
            refine EndsW.go (b := T440.setTop (mkF m 243 #[.val (.int p1), .val (.int p2), .val (.int p3), .val (.int p4), .val (.int c0), .val (.int c1), .val (.int c2), .val (.int (p4 &&& (7 : Int32))), .val (.ref b415), .unset, .val (.int (31 : Int32))] [(.int c0)])) (fun t k => ?_) ?_
            · show Steps p.tables e below (T440.setTop (mkF m 234 #[.val (.int p1), .val (.int p2), .val (.int p3), .val (.int p4), .val (.int c0), .val (.int c1), .val (.int c2), .val (.int (p4 &&& (7 : Int32))), .val (.ref b415), .unset, .val (.int (31 : Int32))] [])) _
              refine XS.iload X440.here hx rfl (hb hby at_234) rfl ?_
              show Steps p.tables e below (T440.setTop (mkF m 236 #[.val (.int p1), .val (.int p2), .val (.int p3), .val (.int p4), .val (.int c0), .val (.int c1), .val (.int c2), .val (.int (p4 &&& (7 : Int32))), .val (.ref b415), .unset, .val (.int (31 : Int32))] [(.int (31 : Int32))])) _
              refine XS.bipush X440.here hx rfl (hb hby at_236) ?_
              refine XS.icmpNo X440.here hx rfl (hb hby at_238) rfl (flt (by decide)).2.2.1 ?_
              show Steps p.tables e below (T440.setTop (mkF m 241 #[.val (.int p1), .val (.int p2), .val (.int p3), .val (.int p4), .val (.int c0), .val (.int c1), .val (.int c2), .val (.int (p4 &&& (7 : Int32))), .val (.ref b415), .unset, .val (.int (31 : Int32))] [])) _
              refine XS.iload X440.here hx rfl (hb hby at_241) rfl ?_
              exact k
            obtain ⟨_, _, ⟨T448, L448, kk448, nn448⟩, -, X448, ⟨Lc448, hQ448, l448, y448, z448⟩, st448⟩ := Jvm.LawKit.callS X440 hx (y := (⟨"com/example/lossfall/lossfall/model/CertificateClassIsValidNamePinLaw", "ok", "(C)Z"⟩ : MethodName)) hown (mvT hZ (own_w hw 2 rfl)) (mvT hZ (own_w hw 3 rfl)) (mvT hZ (own_w hw 4 rfl)) (mvT hZ (own_w hw 5 rfl)) (by decide) (backOf (W := 0) (rm1 l Z a0 hw [] c0 h440 n0 f441 hc0.1) hZ (own_w hw 5 rfl) (own_w hw 4 rfl) (by decide) (by decide)) (g := (mkF m 243 #[.val (.int p1), .val (.int p2), .val (.int p3), .val (.int p4), .val (.int c0), .val (.int c1), .val (.int c2), .val (.int (p4 &&& (7 : Int32))), .val (.ref b415), .unset, .val (.int (31 : Int32))] [(.int c0)])) rfl (by rw [hml]; rfl) (argsL := [(.int c0)]) (rest := []) (lenOf pd_18 rfl) rfl (by show 2 * 0 + _ ≤ _; exact Nat.le_of_eq rfl) (hb hby at_243) (fun _ _ => ⟨rfl, e440, (by decide : 1 + 0 ≤ _), (by decide : 33 + 0 ≤ _)⟩)
            dsimp only [Pt.U, Pt.locs, Pt.cells, Pt.slots] at X448 l448 y448 z448 st448 hQ448
            subst l448 y448 z448
            obtain ⟨rfl, Nq448, eq448⟩ := hQ448
            have N448 := Fr.app N440 Nq448
            refine EndsW.go st448 ?_
            show EndsW _ _ _ _ _ _ _ (T448.setTop (mkF m 246 #[.val (.int p1), .val (.int p2), .val (.int p3), .val (.int p4), .val (.int c0), .val (.int c1), .val (.int c2), .val (.int (p4 &&& (7 : Int32))), .val (.ref b415), .unset, .val (.int (31 : Int32))] [(.int (own_okc c0))]))
            by_cases hc246_449 : (own_okc c0) = (0 : Int32)
            · refine EndsW.go (b := T448.setTop (mkF m 269 #[.val (.int p1), .val (.int p2), .val (.int p3), .val (.int p4), .val (.int c0), .val (.int c1), .val (.int c2), .val (.int (p4 &&& (7 : Int32))), .val (.ref b415), .unset, .val (.int (31 : Int32))] [])) (fun t k => ?_) ?_
              · show Steps p.tables e below (T448.setTop (mkF m 246 #[.val (.int p1), .val (.int p2), .val (.int p3), .val (.int p4), .val (.int c0), .val (.int c1), .val (.int c2), .val (.int (p4 &&& (7 : Int32))), .val (.ref b415), .unset, .val (.int (31 : Int32))] [(.int (own_okc c0))])) _
                refine XS.ifYes X448.here hx rfl (pc0 := 246) (pc' := 269) rfl (hb hby at_246) rfl ((if0 _ _).trans (teq hc246_449).1) (by decide) (by decide) ?_
                show Steps p.tables e below (T448.setTop (mkF m 269 #[.val (.int p1), .val (.int p2), .val (.int p3), .val (.int p4), .val (.int c0), .val (.int c1), .val (.int c2), .val (.int (p4 &&& (7 : Int32))), .val (.ref b415), .unset, .val (.int (31 : Int32))] [])) _
                exact k
              refine EndsW.go (b := T448.setTop (mkF m 272 #[.val (.int p1), .val (.int p2), .val (.int p3), .val (.int p4), .val (.int c0), .val (.int c1), .val (.int c2), .val (.int (p4 &&& (7 : Int32))), .val (.ref b415), .val (.int (0 : Int32)), .val (.int (31 : Int32))] [])) (fun t k => ?_) ?_
              · show Steps p.tables e below (T448.setTop (mkF m 269 #[.val (.int p1), .val (.int p2), .val (.int p3), .val (.int p4), .val (.int c0), .val (.int c1), .val (.int c2), .val (.int (p4 &&& (7 : Int32))), .val (.ref b415), .unset, .val (.int (31 : Int32))] [])) _
                refine XS.iconst X448.here hx rfl (hb hby at_269) ?_
                refine XS.istore X448.here hx rfl (hb hby at_270) rfl (l' := #[.val (.int p1), .val (.int p2), .val (.int p3), .val (.int p4), .val (.int c0), .val (.int c1), .val (.int c2), .val (.int (p4 &&& (7 : Int32))), .val (.ref b415), .val (.int (0 : Int32)), .val (.int (31 : Int32))]) rfl ?_
                show Steps p.tables e below (T448.setTop (mkF m 272 #[.val (.int p1), .val (.int p2), .val (.int p3), .val (.int p4), .val (.int c0), .val (.int c1), .val (.int c2), .val (.int (p4 &&& (7 : Int32))), .val (.ref b415), .val (.int (0 : Int32)), .val (.int (31 : Int32))] [])) _
                exact k
              have Gc450 : Arf Z h440 b415 kb415 .char (31 : Int32) (own_cv (own_chL (0 : Int32) (15 : Int32) (30 : Int32) c0 c1 c2)) := own_aL fa440 hc0 hc1 hc2
              obtain ⟨T451, h451, X451, e451, E451, A451, D451, -, st451⟩ := newO X448 hx hZ hown (own_w hw 6 rfl) (own_w hw 7 rfl) (own_w hw 8 rfl) eq448 (g := (mkF m 272 #[.val (.int p1), .val (.int p2), .val (.int p3), .val (.int p4), .val (.int c0), .val (.int c1), .val (.int c2), .val (.int (p4 &&& (7 : Int32))), .val (.ref b415), .val (.int (0 : Int32)), .val (.int (31 : Int32))] [])) rfl (hb hby at_272) (by decide) (by decide)
              obtain ⟨b451, g451⟩ : ∃ z, z = h440.size := ⟨_, rfl⟩
              rw [← g451] at A451 D451 st451
              have gn451 : n0 ≤ b451 := Nat.le_trans f441 (Nat.le_of_eq g451.symm)
              have ne451_b415 : b415 ≠ b451 := Nat.ne_of_lt (Nat.lt_of_lt_of_le Gc450.lt (Nat.le_of_eq g451.symm))
              have f452 := Nat.le_trans f441 E451.1
              have f453 := Nat.le_trans f442 E451.1
              have f454 := f443.ext E451
              have f455 := f444.ext E451
              have f456 := f445.ext E451
              have f457 := f446.ext E451
              have f458 := f447.ext E451
              have f459 := Gc450.ext E451
              have f460 : Fld Z h451 b451 "java/lang/String" "coder" "B" (.int (0 : Int32)) := D451 (Or.inr (own_w hw 32 rfl)) (ty := .byte) (by decide)
              have f461 : Fld Z h451 b451 "java/lang/String" "value" "[B" .null := D451 (Or.inr (own_w hw 34 rfl)) (ty := (.array .byte)) (by decide)
              refine EndsW.go st451 ?_
              show EndsW _ _ _ _ _ _ _ (T451.setTop (mkF m 275 #[.val (.int p1), .val (.int p2), .val (.int p3), .val (.int p4), .val (.int c0), .val (.int c1), .val (.int c2), .val (.int (p4 &&& (7 : Int32))), .val (.ref b415), .val (.int (0 : Int32)), .val (.int (31 : Int32))] [(.ref b451)]))
              refine EndsW.go (b := T451.setTop (mkF m 278 #[.val (.int p1), .val (.int p2), .val (.int p3), .val (.int p4), .val (.int c0), .val (.int c1), .val (.int c2), .val (.int (p4 &&& (7 : Int32))), .val (.ref b415), .val (.int (0 : Int32)), .val (.int (31 : Int32))] [(.ref b415), (.ref b451), (.ref b451)])) (fun t k => ?_) ?_
              · show Steps p.tables e below (T451.setTop (mkF m 275 #[.val (.int p1), .val (.int p2), .val (.int p3), .val (.int p4), .val (.int c0), .val (.int c1), .val (.int c2), .val (.int (p4 &&& (7 : Int32))), .val (.ref b415), .val (.int (0 : Int32)), .val (.int (31 : Int32))] [(.ref b451)])) _
                refine XS.dup X451.here hx rfl (hb hby at_275) rfl rfl ?_
                refine XS.aload X451.here hx rfl (hb hby at_276) rfl rfl ?_
                exact k
              obtain ⟨_, _, ⟨T462, L462, kk462, nn462⟩, -, X462, ⟨Lc462, hQ462, l462, y462, z462⟩, st462⟩ := X451.specialBack hx (y := (⟨"java/lang/String", "<init>", "([C)V"⟩ : MethodName)) rfl hown (mvT hZ (own_w hw 9 rfl)) (mvT hZ (own_w hw 10 rfl)) (mvT hZ (own_w hw 11 rfl)) (by decide) (backOf (W := 1) (rm2 l Z a0 hw [] b451 b415 cs fv kb415 (31 : Int32) (own_chL (0 : Int32) (15 : Int32) (30 : Int32) c0 c1 c2) h451 n0 f452 ⟨f454, hcs, f455, hfv, f456, f457, f458⟩ A451 f461 f460 gn451 (Ne.symm ne451_b415) f459 (by decide) (by decide) (by decide) (own_chLR _ _ _ c0 c1 c2 hc0 hc1 hc2)) hZ (own_w hw 11 rfl) (own_w hw 8 rfl) (by decide) (by decide)) (g := (mkF m 278 #[.val (.int p1), .val (.int p2), .val (.int p3), .val (.int p4), .val (.int c0), .val (.int c1), .val (.int c2), .val (.int (p4 &&& (7 : Int32))), .val (.ref b415), .val (.int (0 : Int32)), .val (.int (31 : Int32))] [(.ref b415), (.ref b451), (.ref b451)])) rfl (by rw [hml]; rfl) (Steps.refl _) (a := b451) (argsL := [(.ref b415)]) (rest := [(.ref b451)]) (lenOf pd_16 rfl) rfl (by show 2 * 0 + _ ≤ _; exact Nat.le_of_eq rfl) (hb hby at_278) (fun _ _ => ⟨rfl, e451, (by decide : 2 + 2 ≤ _), (by decide : 37 + 99 ≤ _)⟩)
              dsimp only [Pt.U, Pt.locs, Pt.cells, Pt.slots] at X462 l462 y462 z462 st462 hQ462
              subst l462 y462 z462
              obtain ⟨rfl, Nq462, K462, Ys462⟩ := hQ462
              have N462 := Fr.app N448 Nq462
              have f463 := Nat.le_trans f452 K462.1
              have f464 := Nat.le_trans f453 K462.1
              have f465 := own_sta_keep f454 K462 A451
              have f466 := own_sta_keep f455 K462 A451
              have f467 := own_sta_keep f456 K462 A451
              have f468 := own_sta_keep f457 K462 A451
              have f469 := own_sta_keep f458 K462 A451
              have f470 := f459.keep K462 (ninS ne451_b415 nin0)
              have f471 := A451.keep K462
              refine EndsW.go (fun t k => st462.trans k) ?_
              show EndsW _ _ _ _ _ _ _ (T462.setTop (mkF m 281 #[.val (.int p1), .val (.int p2), .val (.int p3), .val (.int p4), .val (.int c0), .val (.int c1), .val (.int c2), .val (.int (p4 &&& (7 : Int32))), .val (.ref b415), .val (.int (0 : Int32)), .val (.int (31 : Int32))] [(.ref b451)]))
              obtain ⟨_, _, ⟨T472, L472, kk472, nn472⟩, -, X472, ⟨Lc472, hQ472, l472, y472, z472⟩, st472⟩ := Jvm.LawKit.callS X462 hx (y := (⟨"com/example/lossfall/lossfall/model/CertificateClass", "isValidName", "(Ljava/lang/String;)Z"⟩ : MethodName)) hown (mvT hZ (own_w hw 35 rfl)) (mvT hZ (own_w hw 36 rfl)) (mvT hZ (own_w hw 37 rfl)) (mvT hZ (own_w hw 38 rfl)) (by decide) (backOf (W := 0) (rm8 l Z a0 hw [] b451 cs fv (31 : Int32) (own_chL (0 : Int32) (15 : Int32) (30 : Int32) c0 c1 c2) T462.heap n0 f463 ⟨f465, hcs, f466, hfv, f467, f468, f469⟩ Ys462 (by decide) (by decide) (own_chLR _ _ _ c0 c1 c2 hc0 hc1 hc2) Ys462.1) hZ (own_w hw 38 rfl) (own_w hw 37 rfl) (by decide) (by decide)) (g := (mkF m 281 #[.val (.int p1), .val (.int p2), .val (.int p3), .val (.int p4), .val (.int c0), .val (.int c1), .val (.int c2), .val (.int (p4 &&& (7 : Int32))), .val (.ref b415), .val (.int (0 : Int32)), .val (.int (31 : Int32))] [(.ref b451)])) rfl (by rw [hml]; rfl) (argsL := [(.ref b451)]) (rest := []) (lenOf pd_17 rfl) rfl (by show 2 * 0 + _ ≤ _; exact Nat.le_of_eq rfl) (hb hby at_281) (fun _ _ => ⟨rfl, rfl, (by decide : 4 + 0 ≤ _), (by decide : 136 + 0 ≤ _)⟩)
              dsimp only [Pt.U, Pt.locs, Pt.cells, Pt.slots] at X472 l472 y472 z472 st472 hQ472
              subst l472 y472 z472
              obtain ⟨rfl, Nq472, eq472⟩ := hQ472
              have N472 := Fr.app N462 Nq472
              refine EndsW.go st472 ?_
              show EndsW _ _ _ _ _ _ _ (T472.setTop (mkF m 284 #[.val (.int p1), .val (.int p2), .val (.int p3), .val (.int p4), .val (.int c0), .val (.int c1), .val (.int c2), .val (.int (p4 &&& (7 : Int32))), .val (.ref b415), .val (.int (0 : Int32)), .val (.int (31 : Int32))] [(.int (own_val (31 : Int32) (own_chL (0 : Int32) (15 : Int32) (30 : Int32) c0 c1 c2)))]))
              refine EndsW.go (b := T472.setTop (mkF m 294 #[.val (.int p1), .val (.int p2), .val (.int p3), .val (.int p4), .val (.int c0), .val (.int c1), .val (.int c2), .val (.int (p4 &&& (7 : Int32))), .val (.ref b415), .val (.int (0 : Int32)), .val (.int (31 : Int32))] [(.int (1 : Int32))])) (fun t k => ?_) ?_
              · show Steps p.tables e below (T472.setTop (mkF m 284 #[.val (.int p1), .val (.int p2), .val (.int p3), .val (.int p4), .val (.int c0), .val (.int c1), .val (.int c2), .val (.int (p4 &&& (7 : Int32))), .val (.ref b415), .val (.int (0 : Int32)), .val (.int (31 : Int32))] [(.int (own_val (31 : Int32) (own_chL (0 : Int32) (15 : Int32) (30 : Int32) c0 c1 c2)))])) _
                refine XS.iload X472.here hx rfl (hb hby at_284) rfl ?_
                refine XS.icmpNo X472.here hx rfl (hb hby at_286) rfl (teq (own_vZero _ _ (by decide) (by decide) 0 (by decide) c0 rfl hc246_449)).2 ?_
                show Steps p.tables e below (T472.setTop (mkF m 289 #[.val (.int p1), .val (.int p2), .val (.int p3), .val (.int p4), .val (.int c0), .val (.int c1), .val (.int c2), .val (.int (p4 &&& (7 : Int32))), .val (.ref b415), .val (.int (0 : Int32)), .val (.int (31 : Int32))] [])) _
                refine XS.iconst X472.here hx rfl (hb hby at_289) ?_
                show Steps p.tables e below (T472.setTop (mkF m 290 #[.val (.int p1), .val (.int p2), .val (.int p3), .val (.int p4), .val (.int c0), .val (.int c1), .val (.int c2), .val (.int (p4 &&& (7 : Int32))), .val (.ref b415), .val (.int (0 : Int32)), .val (.int (31 : Int32))] [(.int (1 : Int32))])) _
                refine XS.goto X472.here hx rfl (pc0 := 290) (pc' := 294) rfl (hb hby at_290) (by decide) (by decide) ?_
                exact k
              refine EndsW.retN X472 hS0 (by rw [eq472]; exact f464) hx Bd.notSynchronized (t := .boolean) Bd.returns (by simp) (hb hby at_294) (by decide) (by decide) ?_
              show Q0 Z p1 p2 p3 p4 cs fv h0 n0 (some (.int (nar .boolean (1 : Int32)))) T472.heap _
              rw [eq472]
              exact ⟨rfl, N472⟩
            · refine EndsW.go (b := T448.setTop (mkF m 249 #[.val (.int p1), .val (.int p2), .val (.int p3), .val (.int p4), .val (.int c0), .val (.int c1), .val (.int c2), .val (.int (p4 &&& (7 : Int32))), .val (.ref b415), .unset, .val (.int (31 : Int32))] [])) (fun t k => ?_) ?_
              · show Steps p.tables e below (T448.setTop (mkF m 246 #[.val (.int p1), .val (.int p2), .val (.int p3), .val (.int p4), .val (.int c0), .val (.int c1), .val (.int c2), .val (.int (p4 &&& (7 : Int32))), .val (.ref b415), .unset, .val (.int (31 : Int32))] [(.int (own_okc c0))])) _
                refine XS.ifNo X448.here hx rfl (hb hby at_246) rfl ((if0 _ _).trans (feq hc246_449).1) ?_
                show Steps p.tables e below (T448.setTop (mkF m 249 #[.val (.int p1), .val (.int p2), .val (.int p3), .val (.int p4), .val (.int c0), .val (.int c1), .val (.int c2), .val (.int (p4 &&& (7 : Int32))), .val (.ref b415), .unset, .val (.int (31 : Int32))] [])) _
                exact k
              refine EndsW.go (b := T448.setTop (mkF m 251 #[.val (.int p1), .val (.int p2), .val (.int p3), .val (.int p4), .val (.int c0), .val (.int c1), .val (.int c2), .val (.int (p4 &&& (7 : Int32))), .val (.ref b415), .unset, .val (.int (31 : Int32))] [(.int c1)])) (fun t k => ?_) ?_
              · show Steps p.tables e below (T448.setTop (mkF m 249 #[.val (.int p1), .val (.int p2), .val (.int p3), .val (.int p4), .val (.int c0), .val (.int c1), .val (.int c2), .val (.int (p4 &&& (7 : Int32))), .val (.ref b415), .unset, .val (.int (31 : Int32))] [])) _
                refine XS.iload X448.here hx rfl (hb hby at_249) rfl ?_
                exact k
              obtain ⟨_, _, ⟨T473, L473, kk473, nn473⟩, -, X473, ⟨Lc473, hQ473, l473, y473, z473⟩, st473⟩ := Jvm.LawKit.callS X448 hx (y := (⟨"com/example/lossfall/lossfall/model/CertificateClassIsValidNamePinLaw", "ok", "(C)Z"⟩ : MethodName)) hown (mvT hZ (own_w hw 2 rfl)) (mvT hZ (own_w hw 3 rfl)) (mvT hZ (own_w hw 4 rfl)) (mvT hZ (own_w hw 5 rfl)) (by decide) (backOf (W := 0) (rm1 l Z a0 hw [] c1 h440 n0 f441 hc1.1) hZ (own_w hw 5 rfl) (own_w hw 4 rfl) (by decide) (by decide)) (g := (mkF m 251 #[.val (.int p1), .val (.int p2), .val (.int p3), .val (.int p4), .val (.int c0), .val (.int c1), .val (.int c2), .val (.int (p4 &&& (7 : Int32))), .val (.ref b415), .unset, .val (.int (31 : Int32))] [(.int c1)])) rfl (by rw [hml]; rfl) (argsL := [(.int c1)]) (rest := []) (lenOf pd_18 rfl) rfl (by show 2 * 0 + _ ≤ _; exact Nat.le_of_eq rfl) (hb hby at_251) (fun _ _ => ⟨rfl, eq448, (by decide : 1 + 0 ≤ _), (by decide : 33 + 0 ≤ _)⟩)
              dsimp only [Pt.U, Pt.locs, Pt.cells, Pt.slots] at X473 l473 y473 z473 st473 hQ473
              subst l473 y473 z473
              obtain ⟨rfl, Nq473, eq473⟩ := hQ473
              have N473 := Fr.app N448 Nq473
              refine EndsW.go st473 ?_
              show EndsW _ _ _ _ _ _ _ (T473.setTop (mkF m 254 #[.val (.int p1), .val (.int p2), .val (.int p3), .val (.int p4), .val (.int c0), .val (.int c1), .val (.int c2), .val (.int (p4 &&& (7 : Int32))), .val (.ref b415), .unset, .val (.int (31 : Int32))] [(.int (own_okc c1))]))
              by_cases hc254_474 : (own_okc c1) = (0 : Int32)
              · refine EndsW.go (b := T473.setTop (mkF m 269 #[.val (.int p1), .val (.int p2), .val (.int p3), .val (.int p4), .val (.int c0), .val (.int c1), .val (.int c2), .val (.int (p4 &&& (7 : Int32))), .val (.ref b415), .unset, .val (.int (31 : Int32))] [])) (fun t k => ?_) ?_
                · show Steps p.tables e below (T473.setTop (mkF m 254 #[.val (.int p1), .val (.int p2), .val (.int p3), .val (.int p4), .val (.int c0), .val (.int c1), .val (.int c2), .val (.int (p4 &&& (7 : Int32))), .val (.ref b415), .unset, .val (.int (31 : Int32))] [(.int (own_okc c1))])) _
                  refine XS.ifYes X473.here hx rfl (pc0 := 254) (pc' := 269) rfl (hb hby at_254) rfl ((if0 _ _).trans (teq hc254_474).1) (by decide) (by decide) ?_
                  show Steps p.tables e below (T473.setTop (mkF m 269 #[.val (.int p1), .val (.int p2), .val (.int p3), .val (.int p4), .val (.int c0), .val (.int c1), .val (.int c2), .val (.int (p4 &&& (7 : Int32))), .val (.ref b415), .unset, .val (.int (31 : Int32))] [])) _
                  exact k
                refine EndsW.go (b := T473.setTop (mkF m 272 #[.val (.int p1), .val (.int p2), .val (.int p3), .val (.int p4), .val (.int c0), .val (.int c1), .val (.int c2), .val (.int (p4 &&& (7 : Int32))), .val (.ref b415), .val (.int (0 : Int32)), .val (.int (31 : Int32))] [])) (fun t k => ?_) ?_
                · show Steps p.tables e below (T473.setTop (mkF m 269 #[.val (.int p1), .val (.int p2), .val (.int p3), .val (.int p4), .val (.int c0), .val (.int c1), .val (.int c2), .val (.int (p4 &&& (7 : Int32))), .val (.ref b415), .unset, .val (.int (31 : Int32))] [])) _
                  refine XS.iconst X473.here hx rfl (hb hby at_269) ?_
                  refine XS.istore X473.here hx rfl (hb hby at_270) rfl (l' := #[.val (.int p1), .val (.int p2), .val (.int p3), .val (.int p4), .val (.int c0), .val (.int c1), .val (.int c2), .val (.int (p4 &&& (7 : Int32))), .val (.ref b415), .val (.int (0 : Int32)), .val (.int (31 : Int32))]) rfl ?_
                  show Steps p.tables e below (T473.setTop (mkF m 272 #[.val (.int p1), .val (.int p2), .val (.int p3), .val (.int p4), .val (.int c0), .val (.int c1), .val (.int c2), .val (.int (p4 &&& (7 : Int32))), .val (.ref b415), .val (.int (0 : Int32)), .val (.int (31 : Int32))] [])) _
                  exact k
                have Gc475 : Arf Z h440 b415 kb415 .char (31 : Int32) (own_cv (own_chL (0 : Int32) (15 : Int32) (30 : Int32) c0 c1 c2)) := own_aL fa440 hc0 hc1 hc2
                obtain ⟨T476, h476, X476, e476, E476, A476, D476, -, st476⟩ := newO X473 hx hZ hown (own_w hw 6 rfl) (own_w hw 7 rfl) (own_w hw 8 rfl) eq473 (g := (mkF m 272 #[.val (.int p1), .val (.int p2), .val (.int p3), .val (.int p4), .val (.int c0), .val (.int c1), .val (.int c2), .val (.int (p4 &&& (7 : Int32))), .val (.ref b415), .val (.int (0 : Int32)), .val (.int (31 : Int32))] [])) rfl (hb hby at_272) (by decide) (by decide)
                obtain ⟨b476, g476⟩ : ∃ z, z = h440.size := ⟨_, rfl⟩
                rw [← g476] at A476 D476 st476
                have gn476 : n0 ≤ b476 := Nat.le_trans f441 (Nat.le_of_eq g476.symm)
                have ne476_b415 : b415 ≠ b476 := Nat.ne_of_lt (Nat.lt_of_lt_of_le Gc475.lt (Nat.le_of_eq g476.symm))
                have f477 := Nat.le_trans f441 E476.1
                have f478 := Nat.le_trans f442 E476.1
                have f479 := f443.ext E476
                have f480 := f444.ext E476
                have f481 := f445.ext E476
                have f482 := f446.ext E476
                have f483 := f447.ext E476
                have f484 := Gc475.ext E476
                have f485 : Fld Z h476 b476 "java/lang/String" "coder" "B" (.int (0 : Int32)) := D476 (Or.inr (own_w hw 32 rfl)) (ty := .byte) (by decide)
                have f486 : Fld Z h476 b476 "java/lang/String" "value" "[B" .null := D476 (Or.inr (own_w hw 34 rfl)) (ty := (.array .byte)) (by decide)
                refine EndsW.go st476 ?_
                show EndsW _ _ _ _ _ _ _ (T476.setTop (mkF m 275 #[.val (.int p1), .val (.int p2), .val (.int p3), .val (.int p4), .val (.int c0), .val (.int c1), .val (.int c2), .val (.int (p4 &&& (7 : Int32))), .val (.ref b415), .val (.int (0 : Int32)), .val (.int (31 : Int32))] [(.ref b476)]))
                refine EndsW.go (b := T476.setTop (mkF m 278 #[.val (.int p1), .val (.int p2), .val (.int p3), .val (.int p4), .val (.int c0), .val (.int c1), .val (.int c2), .val (.int (p4 &&& (7 : Int32))), .val (.ref b415), .val (.int (0 : Int32)), .val (.int (31 : Int32))] [(.ref b415), (.ref b476), (.ref b476)])) (fun t k => ?_) ?_
                · show Steps p.tables e below (T476.setTop (mkF m 275 #[.val (.int p1), .val (.int p2), .val (.int p3), .val (.int p4), .val (.int c0), .val (.int c1), .val (.int c2), .val (.int (p4 &&& (7 : Int32))), .val (.ref b415), .val (.int (0 : Int32)), .val (.int (31 : Int32))] [(.ref b476)])) _
                  refine XS.dup X476.here hx rfl (hb hby at_275) rfl rfl ?_
                  refine XS.aload X476.here hx rfl (hb hby at_276) rfl rfl ?_
                  exact k
                obtain ⟨_, _, ⟨T487, L487, kk487, nn487⟩, -, X487, ⟨Lc487, hQ487, l487, y487, z487⟩, st487⟩ := X476.specialBack hx (y := (⟨"java/lang/String", "<init>", "([C)V"⟩ : MethodName)) rfl hown (mvT hZ (own_w hw 9 rfl)) (mvT hZ (own_w hw 10 rfl)) (mvT hZ (own_w hw 11 rfl)) (by decide) (backOf (W := 1) (rm2 l Z a0 hw [] b476 b415 cs fv kb415 (31 : Int32) (own_chL (0 : Int32) (15 : Int32) (30 : Int32) c0 c1 c2) h476 n0 f477 ⟨f479, hcs, f480, hfv, f481, f482, f483⟩ A476 f486 f485 gn476 (Ne.symm ne476_b415) f484 (by decide) (by decide) (by decide) (own_chLR _ _ _ c0 c1 c2 hc0 hc1 hc2)) hZ (own_w hw 11 rfl) (own_w hw 8 rfl) (by decide) (by decide)) (g := (mkF m 278 #[.val (.int p1), .val (.int p2), .val (.int p3), .val (.int p4), .val (.int c0), .val (.int c1), .val (.int c2), .val (.int (p4 &&& (7 : Int32))), .val (.ref b415), .val (.int (0 : Int32)), .val (.int (31 : Int32))] [(.ref b415), (.ref b476), (.ref b476)])) rfl (by rw [hml]; rfl) (Steps.refl _) (a := b476) (argsL := [(.ref b415)]) (rest := [(.ref b476)]) (lenOf pd_16 rfl) rfl (by show 2 * 0 + _ ≤ _; exact Nat.le_of_eq rfl) (hb hby at_278) (fun _ _ => ⟨rfl, e476, (by decide : 2 + 2 ≤ _), (by decide : 37 + 99 ≤ _)⟩)
                dsimp only [Pt.U, Pt.locs, Pt.cells, Pt.slots] at X487 l487 y487 z487 st487 hQ487
                subst l487 y487 z487
                obtain ⟨rfl, Nq487, K487, Ys487⟩ := hQ487
                have N487 := Fr.app N473 Nq487
                have f488 := Nat.le_trans f477 K487.1
                have f489 := Nat.le_trans f478 K487.1
                have f490 := own_sta_keep f479 K487 A476
                have f491 := own_sta_keep f480 K487 A476
                have f492 := own_sta_keep f481 K487 A476
                have f493 := own_sta_keep f482 K487 A476
                have f494 := own_sta_keep f483 K487 A476
                have f495 := f484.keep K487 (ninS ne476_b415 nin0)
                have f496 := A476.keep K487
                refine EndsW.go (fun t k => st487.trans k) ?_
                show EndsW _ _ _ _ _ _ _ (T487.setTop (mkF m 281 #[.val (.int p1), .val (.int p2), .val (.int p3), .val (.int p4), .val (.int c0), .val (.int c1), .val (.int c2), .val (.int (p4 &&& (7 : Int32))), .val (.ref b415), .val (.int (0 : Int32)), .val (.int (31 : Int32))] [(.ref b476)]))
                obtain ⟨_, _, ⟨T497, L497, kk497, nn497⟩, -, X497, ⟨Lc497, hQ497, l497, y497, z497⟩, st497⟩ := Jvm.LawKit.callS X487 hx (y := (⟨"com/example/lossfall/lossfall/model/CertificateClass", "isValidName", "(Ljava/lang/String;)Z"⟩ : MethodName)) hown (mvT hZ (own_w hw 35 rfl)) (mvT hZ (own_w hw 36 rfl)) (mvT hZ (own_w hw 37 rfl)) (mvT hZ (own_w hw 38 rfl)) (by decide) (backOf (W := 0) (rm8 l Z a0 hw [] b476 cs fv (31 : Int32) (own_chL (0 : Int32) (15 : Int32) (30 : Int32) c0 c1 c2) T487.heap n0 f488 ⟨f490, hcs, f491, hfv, f492, f493, f494⟩ Ys487 (by decide) (by decide) (own_chLR _ _ _ c0 c1 c2 hc0 hc1 hc2) Ys487.1) hZ (own_w hw 38 rfl) (own_w hw 37 rfl) (by decide) (by decide)) (g := (mkF m 281 #[.val (.int p1), .val (.int p2), .val (.int p3), .val (.int p4), .val (.int c0), .val (.int c1), .val (.int c2), .val (.int (p4 &&& (7 : Int32))), .val (.ref b415), .val (.int (0 : Int32)), .val (.int (31 : Int32))] [(.ref b476)])) rfl (by rw [hml]; rfl) (argsL := [(.ref b476)]) (rest := []) (lenOf pd_17 rfl) rfl (by show 2 * 0 + _ ≤ _; exact Nat.le_of_eq rfl) (hb hby at_281) (fun _ _ => ⟨rfl, rfl, (by decide : 4 + 0 ≤ _), (by decide : 136 + 0 ≤ _)⟩)
                dsimp only [Pt.U, Pt.locs, Pt.cells, Pt.slots] at X497 l497 y497 z497 st497 hQ497
                subst l497 y497 z497
                obtain ⟨rfl, Nq497, eq497⟩ := hQ497
                have N497 := Fr.app N487 Nq497
                refine EndsW.go st497 ?_
                show EndsW _ _ _ _ _ _ _ (T497.setTop (mkF m 284 #[.val (.int p1), .val (.int p2), .val (.int p3), .val (.int p4), .val (.int c0), .val (.int c1), .val (.int c2), .val (.int (p4 &&& (7 : Int32))), .val (.ref b415), .val (.int (0 : Int32)), .val (.int (31 : Int32))] [(.int (own_val (31 : Int32) (own_chL (0 : Int32) (15 : Int32) (30 : Int32) c0 c1 c2)))]))
                refine EndsW.go (b := T497.setTop (mkF m 294 #[.val (.int p1), .val (.int p2), .val (.int p3), .val (.int p4), .val (.int c0), .val (.int c1), .val (.int c2), .val (.int (p4 &&& (7 : Int32))), .val (.ref b415), .val (.int (0 : Int32)), .val (.int (31 : Int32))] [(.int (1 : Int32))])) (fun t k => ?_) ?_
                · show Steps p.tables e below (T497.setTop (mkF m 284 #[.val (.int p1), .val (.int p2), .val (.int p3), .val (.int p4), .val (.int c0), .val (.int c1), .val (.int c2), .val (.int (p4 &&& (7 : Int32))), .val (.ref b415), .val (.int (0 : Int32)), .val (.int (31 : Int32))] [(.int (own_val (31 : Int32) (own_chL (0 : Int32) (15 : Int32) (30 : Int32) c0 c1 c2)))])) _
                  refine XS.iload X497.here hx rfl (hb hby at_284) rfl ?_
                  refine XS.icmpNo X497.here hx rfl (hb hby at_286) rfl (teq (own_vZero _ _ (by decide) (by decide) 15 (by decide) c1 rfl hc254_474)).2 ?_
                  show Steps p.tables e below (T497.setTop (mkF m 289 #[.val (.int p1), .val (.int p2), .val (.int p3), .val (.int p4), .val (.int c0), .val (.int c1), .val (.int c2), .val (.int (p4 &&& (7 : Int32))), .val (.ref b415), .val (.int (0 : Int32)), .val (.int (31 : Int32))] [])) _
                  refine XS.iconst X497.here hx rfl (hb hby at_289) ?_
                  show Steps p.tables e below (T497.setTop (mkF m 290 #[.val (.int p1), .val (.int p2), .val (.int p3), .val (.int p4), .val (.int c0), .val (.int c1), .val (.int c2), .val (.int (p4 &&& (7 : Int32))), .val (.ref b415), .val (.int (0 : Int32)), .val (.int (31 : Int32))] [(.int (1 : Int32))])) _
                  refine XS.goto X497.here hx rfl (pc0 := 290) (pc' := 294) rfl (hb hby at_290) (by decide) (by decide) ?_
                  exact k
                refine EndsW.retN X497 hS0 (by rw [eq497]; exact f489) hx Bd.notSynchronized (t := .boolean) Bd.returns (by simp) (hb hby at_294) (by decide) (by decide) ?_
                show Q0 Z p1 p2 p3 p4 cs fv h0 n0 (some (.int (nar .boolean (1 : Int32)))) T497.heap _
                rw [eq497]
                exact ⟨rfl, N497⟩
              · refine EndsW.go (b := T473.setTop (mkF m 257 #[.val (.int p1), .val (.int p2), .val (.int p3), .val (.int p4), .val (.int c0), .val (.int c1), .val (.int c2), .val (.int (p4 &&& (7 : Int32))), .val (.ref b415), .unset, .val (.int (31 : Int32))] [])) (fun t k => ?_) ?_
                · show Steps p.tables e below (T473.setTop (mkF m 254 #[.val (.int p1), .val (.int p2), .val (.int p3), .val (.int p4), .val (.int c0), .val (.int c1), .val (.int c2), .val (.int (p4 &&& (7 : Int32))), .val (.ref b415), .unset, .val (.int (31 : Int32))] [(.int (own_okc c1))])) _
                  refine XS.ifNo X473.here hx rfl (hb hby at_254) rfl ((if0 _ _).trans (feq hc254_474).1) ?_
                  show Steps p.tables e below (T473.setTop (mkF m 257 #[.val (.int p1), .val (.int p2), .val (.int p3), .val (.int p4), .val (.int c0), .val (.int c1), .val (.int c2), .val (.int (p4 &&& (7 : Int32))), .val (.ref b415), .unset, .val (.int (31 : Int32))] [])) _
                  exact k
                refine EndsW.go (b := T473.setTop (mkF m 259 #[.val (.int p1), .val (.int p2), .val (.int p3), .val (.int p4), .val (.int c0), .val (.int c1), .val (.int c2), .val (.int (p4 &&& (7 : Int32))), .val (.ref b415), .unset, .val (.int (31 : Int32))] [(.int c2)])) (fun t k => ?_) ?_
                · show Steps p.tables e below (T473.setTop (mkF m 257 #[.val (.int p1), .val (.int p2), .val (.int p3), .val (.int p4), .val (.int c0), .val (.int c1), .val (.int c2), .val (.int (p4 &&& (7 : Int32))), .val (.ref b415), .unset, .val (.int (31 : Int32))] [])) _
                  refine XS.iload X473.here hx rfl (hb hby at_257) rfl ?_
                  exact k
                obtain ⟨_, _, ⟨T498, L498, kk498, nn498⟩, -, X498, ⟨Lc498, hQ498, l498, y498, z498⟩, st498⟩ := Jvm.LawKit.callS X473 hx (y := (⟨"com/example/lossfall/lossfall/model/CertificateClassIsValidNamePinLaw", "ok", "(C)Z"⟩ : MethodName)) hown (mvT hZ (own_w hw 2 rfl)) (mvT hZ (own_w hw 3 rfl)) (mvT hZ (own_w hw 4 rfl)) (mvT hZ (own_w hw 5 rfl)) (by decide) (backOf (W := 0) (rm1 l Z a0 hw [] c2 h440 n0 f441 hc2.1) hZ (own_w hw 5 rfl) (own_w hw 4 rfl) (by decide) (by decide)) (g := (mkF m 259 #[.val (.int p1), .val (.int p2), .val (.int p3), .val (.int p4), .val (.int c0), .val (.int c1), .val (.int c2), .val (.int (p4 &&& (7 : Int32))), .val (.ref b415), .unset, .val (.int (31 : Int32))] [(.int c2)])) rfl (by rw [hml]; rfl) (argsL := [(.int c2)]) (rest := []) (lenOf pd_18 rfl) rfl (by show 2 * 0 + _ ≤ _; exact Nat.le_of_eq rfl) (hb hby at_259) (fun _ _ => ⟨rfl, eq473, (by decide : 1 + 0 ≤ _), (by decide : 33 + 0 ≤ _)⟩)
                dsimp only [Pt.U, Pt.locs, Pt.cells, Pt.slots] at X498 l498 y498 z498 st498 hQ498
                subst l498 y498 z498
                obtain ⟨rfl, Nq498, eq498⟩ := hQ498
                have N498 := Fr.app N473 Nq498
                refine EndsW.go st498 ?_
                show EndsW _ _ _ _ _ _ _ (T498.setTop (mkF m 262 #[.val (.int p1), .val (.int p2), .val (.int p3), .val (.int p4), .val (.int c0), .val (.int c1), .val (.int c2), .val (.int (p4 &&& (7 : Int32))), .val (.ref b415), .unset, .val (.int (31 : Int32))] [(.int (own_okc c2))]))
                by_cases hc262_499 : (own_okc c2) = (0 : Int32)
                · refine EndsW.go (b := T498.setTop (mkF m 269 #[.val (.int p1), .val (.int p2), .val (.int p3), .val (.int p4), .val (.int c0), .val (.int c1), .val (.int c2), .val (.int (p4 &&& (7 : Int32))), .val (.ref b415), .unset, .val (.int (31 : Int32))] [])) (fun t k => ?_) ?_
                  · show Steps p.tables e below (T498.setTop (mkF m 262 #[.val (.int p1), .val (.int p2), .val (.int p3), .val (.int p4), .val (.int c0), .val (.int c1), .val (.int c2), .val (.int (p4 &&& (7 : Int32))), .val (.ref b415), .unset, .val (.int (31 : Int32))] [(.int (own_okc c2))])) _
                    refine XS.ifYes X498.here hx rfl (pc0 := 262) (pc' := 269) rfl (hb hby at_262) rfl ((if0 _ _).trans (teq hc262_499).1) (by decide) (by decide) ?_
                    show Steps p.tables e below (T498.setTop (mkF m 269 #[.val (.int p1), .val (.int p2), .val (.int p3), .val (.int p4), .val (.int c0), .val (.int c1), .val (.int c2), .val (.int (p4 &&& (7 : Int32))), .val (.ref b415), .unset, .val (.int (31 : Int32))] [])) _
                    exact k
                  refine EndsW.go (b := T498.setTop (mkF m 272 #[.val (.int p1), .val (.int p2), .val (.int p3), .val (.int p4), .val (.int c0), .val (.int c1), .val (.int c2), .val (.int (p4 &&& (7 : Int32))), .val (.ref b415), .val (.int (0 : Int32)), .val (.int (31 : Int32))] [])) (fun t k => ?_) ?_
                  · show Steps p.tables e below (T498.setTop (mkF m 269 #[.val (.int p1), .val (.int p2), .val (.int p3), .val (.int p4), .val (.int c0), .val (.int c1), .val (.int c2), .val (.int (p4 &&& (7 : Int32))), .val (.ref b415), .unset, .val (.int (31 : Int32))] [])) _
                    refine XS.iconst X498.here hx rfl (hb hby at_269) ?_
                    refine XS.istore X498.here hx rfl (hb hby at_270) rfl (l' := #[.val (.int p1), .val (.int p2), .val (.int p3), .val (.int p4), .val (.int c0), .val (.int c1), .val (.int c2), .val (.int (p4 &&& (7 : Int32))), .val (.ref b415), .val (.int (0 : Int32)), .val (.int (31 : Int32))]) rfl ?_
                    show Steps p.tables e below (T498.setTop (mkF m 272 #[.val (.int p1), .val (.int p2), .val (.int p3), .val (.int p4), .val (.int c0), .val (.int c1), .val (.int c2), .val (.int (p4 &&& (7 : Int32))), .val (.ref b415), .val (.int (0 : Int32)), .val (.int (31 : Int32))] [])) _
                    exact k
                  have Gc500 : Arf Z h440 b415 kb415 .char (31 : Int32) (own_cv (own_chL (0 : Int32) (15 : Int32) (30 : Int32) c0 c1 c2)) := own_aL fa440 hc0 hc1 hc2
                  obtain ⟨T501, h501, X501, e501, E501, A501, D501, -, st501⟩ := newO X498 hx hZ hown (own_w hw 6 rfl) (own_w hw 7 rfl) (own_w hw 8 rfl) eq498 (g := (mkF m 272 #[.val (.int p1), .val (.int p2), .val (.int p3), .val (.int p4), .val (.int c0), .val (.int c1), .val (.int c2), .val (.int (p4 &&& (7 : Int32))), .val (.ref b415), .val (.int (0 : Int32)), .val (.int (31 : Int32))] [])) rfl (hb hby at_272) (by decide) (by decide)
                  obtain ⟨b501, g501⟩ : ∃ z, z = h440.size := ⟨_, rfl⟩
                  rw [← g501] at A501 D501 st501
                  have gn501 : n0 ≤ b501 := Nat.le_trans f441 (Nat.le_of_eq g501.symm)
                  have ne501_b415 : b415 ≠ b501 := Nat.ne_of_lt (Nat.lt_of_lt_of_le Gc500.lt (Nat.le_of_eq g501.symm))
                  have f502 := Nat.le_trans f441 E501.1
                  have f503 := Nat.le_trans f442 E501.1
                  have f504 := f443.ext E501
                  have f505 := f444.ext E501
                  have f506 := f445.ext E501
                  have f507 := f446.ext E501
                  have f508 := f447.ext E501
                  have f509 := Gc500.ext E501
                  have f510 : Fld Z h501 b501 "java/lang/String" "coder" "B" (.int (0 : Int32)) := D501 (Or.inr (own_w hw 32 rfl)) (ty := .byte) (by decide)
                  have f511 : Fld Z h501 b501 "java/lang/String" "value" "[B" .null := D501 (Or.inr (own_w hw 34 rfl)) (ty := (.array .byte)) (by decide)
                  refine EndsW.go st501 ?_
                  show EndsW _ _ _ _ _ _ _ (T501.setTop (mkF m 275 #[.val (.int p1), .val (.int p2), .val (.int p3), .val (.int p4), .val (.int c0), .val (.int c1), .val (.int c2), .val (.int (p4 &&& (7 : Int32))), .val (.ref b415), .val (.int (0 : Int32)), .val (.int (31 : Int32))] [(.ref b501)]))
                  refine EndsW.go (b := T501.setTop (mkF m 278 #[.val (.int p1), .val (.int p2), .val (.int p3), .val (.int p4), .val (.int c0), .val (.int c1), .val (.int c2), .val (.int (p4 &&& (7 : Int32))), .val (.ref b415), .val (.int (0 : Int32)), .val (.int (31 : Int32))] [(.ref b415), (.ref b501), (.ref b501)])) (fun t k => ?_) ?_
                  · show Steps p.tables e below (T501.setTop (mkF m 275 #[.val (.int p1), .val (.int p2), .val (.int p3), .val (.int p4), .val (.int c0), .val (.int c1), .val (.int c2), .val (.int (p4 &&& (7 : Int32))), .val (.ref b415), .val (.int (0 : Int32)), .val (.int (31 : Int32))] [(.ref b501)])) _
                    refine XS.dup X501.here hx rfl (hb hby at_275) rfl rfl ?_
                    refine XS.aload X501.here hx rfl (hb hby at_276) rfl rfl ?_
                    exact k
                  obtain ⟨_, _, ⟨T512, L512, kk512, nn512⟩, -, X512, ⟨Lc512, hQ512, l512, y512, z512⟩, st512⟩ := X501.specialBack hx (y := (⟨"java/lang/String", "<init>", "([C)V"⟩ : MethodName)) rfl hown (mvT hZ (own_w hw 9 rfl)) (mvT hZ (own_w hw 10 rfl)) (mvT hZ (own_w hw 11 rfl)) (by decide) (backOf (W := 1) (rm2 l Z a0 hw [] b501 b415 cs fv kb415 (31 : Int32) (own_chL (0 : Int32) (15 : Int32) (30 : Int32) c0 c1 c2) h501 n0 f502 ⟨f504, hcs, f505, hfv, f506, f507, f508⟩ A501 f511 f510 gn501 (Ne.symm ne501_b415) f509 (by decide) (by decide) (by decide) (own_chLR _ _ _ c0 c1 c2 hc0 hc1 hc2)) hZ (own_w hw 11 rfl) (own_w hw 8 rfl) (by decide) (by decide)) (g := (mkF m 278 #[.val (.int p1), .val (.int p2), .val (.int p3), .val (.int p4), .val (.int c0), .val (.int c1), .val (.int c2), .val (.int (p4 &&& (7 : Int32))), .val (.ref b415), .val (.int (0 : Int32)), .val (.int (31 : Int32))] [(.ref b415), (.ref b501), (.ref b501)])) rfl (by rw [hml]; rfl) (Steps.refl _) (a := b501) (argsL := [(.ref b415)]) (rest := [(.ref b501)]) (lenOf pd_16 rfl) rfl (by show 2 * 0 + _ ≤ _; exact Nat.le_of_eq rfl) (hb hby at_278) (fun _ _ => ⟨rfl, e501, (by decide : 2 + 2 ≤ _), (by decide : 37 + 99 ≤ _)⟩)
                  dsimp only [Pt.U, Pt.locs, Pt.cells, Pt.slots] at X512 l512 y512 z512 st512 hQ512
                  subst l512 y512 z512
                  obtain ⟨rfl, Nq512, K512, Ys512⟩ := hQ512
                  have N512 := Fr.app N498 Nq512
                  have f513 := Nat.le_trans f502 K512.1
                  have f514 := Nat.le_trans f503 K512.1
                  have f515 := own_sta_keep f504 K512 A501
                  have f516 := own_sta_keep f505 K512 A501
                  have f517 := own_sta_keep f506 K512 A501
                  have f518 := own_sta_keep f507 K512 A501
                  have f519 := own_sta_keep f508 K512 A501
                  have f520 := f509.keep K512 (ninS ne501_b415 nin0)
                  have f521 := A501.keep K512
                  refine EndsW.go (fun t k => st512.trans k) ?_
                  show EndsW _ _ _ _ _ _ _ (T512.setTop (mkF m 281 #[.val (.int p1), .val (.int p2), .val (.int p3), .val (.int p4), .val (.int c0), .val (.int c1), .val (.int c2), .val (.int (p4 &&& (7 : Int32))), .val (.ref b415), .val (.int (0 : Int32)), .val (.int (31 : Int32))] [(.ref b501)]))
                  obtain ⟨_, _, ⟨T522, L522, kk522, nn522⟩, -, X522, ⟨Lc522, hQ522, l522, y522, z522⟩, st522⟩ := Jvm.LawKit.callS X512 hx (y := (⟨"com/example/lossfall/lossfall/model/CertificateClass", "isValidName", "(Ljava/lang/String;)Z"⟩ : MethodName)) hown (mvT hZ (own_w hw 35 rfl)) (mvT hZ (own_w hw 36 rfl)) (mvT hZ (own_w hw 37 rfl)) (mvT hZ (own_w hw 38 rfl)) (by decide) (backOf (W := 0) (rm8 l Z a0 hw [] b501 cs fv (31 : Int32) (own_chL (0 : Int32) (15 : Int32) (30 : Int32) c0 c1 c2) T512.heap n0 f513 ⟨f515, hcs, f516, hfv, f517, f518, f519⟩ Ys512 (by decide) (by decide) (own_chLR _ _ _ c0 c1 c2 hc0 hc1 hc2) Ys512.1) hZ (own_w hw 38 rfl) (own_w hw 37 rfl) (by decide) (by decide)) (g := (mkF m 281 #[.val (.int p1), .val (.int p2), .val (.int p3), .val (.int p4), .val (.int c0), .val (.int c1), .val (.int c2), .val (.int (p4 &&& (7 : Int32))), .val (.ref b415), .val (.int (0 : Int32)), .val (.int (31 : Int32))] [(.ref b501)])) rfl (by rw [hml]; rfl) (argsL := [(.ref b501)]) (rest := []) (lenOf pd_17 rfl) rfl (by show 2 * 0 + _ ≤ _; exact Nat.le_of_eq rfl) (hb hby at_281) (fun _ _ => ⟨rfl, rfl, (by decide : 4 + 0 ≤ _), (by decide : 136 + 0 ≤ _)⟩)
                  dsimp only [Pt.U, Pt.locs, Pt.cells, Pt.slots] at X522 l522 y522 z522 st522 hQ522
                  subst l522 y522 z522
                  obtain ⟨rfl, Nq522, eq522⟩ := hQ522
                  have N522 := Fr.app N512 Nq522
                  refine EndsW.go st522 ?_
                  show EndsW _ _ _ _ _ _ _ (T522.setTop (mkF m 284 #[.val (.int p1), .val (.int p2), .val (.int p3), .val (.int p4), .val (.int c0), .val (.int c1), .val (.int c2), .val (.int (p4 &&& (7 : Int32))), .val (.ref b415), .val (.int (0 : Int32)), .val (.int (31 : Int32))] [(.int (own_val (31 : Int32) (own_chL (0 : Int32) (15 : Int32) (30 : Int32) c0 c1 c2)))]))
                  refine EndsW.go (b := T522.setTop (mkF m 294 #[.val (.int p1), .val (.int p2), .val (.int p3), .val (.int p4), .val (.int c0), .val (.int c1), .val (.int c2), .val (.int (p4 &&& (7 : Int32))), .val (.ref b415), .val (.int (0 : Int32)), .val (.int (31 : Int32))] [(.int (1 : Int32))])) (fun t k => ?_) ?_
                  · show Steps p.tables e below (T522.setTop (mkF m 284 #[.val (.int p1), .val (.int p2), .val (.int p3), .val (.int p4), .val (.int c0), .val (.int c1), .val (.int c2), .val (.int (p4 &&& (7 : Int32))), .val (.ref b415), .val (.int (0 : Int32)), .val (.int (31 : Int32))] [(.int (own_val (31 : Int32) (own_chL (0 : Int32) (15 : Int32) (30 : Int32) c0 c1 c2)))])) _
                    refine XS.iload X522.here hx rfl (hb hby at_284) rfl ?_
                    refine XS.icmpNo X522.here hx rfl (hb hby at_286) rfl (teq (own_vZero _ _ (by decide) (by decide) 30 (by decide) c2 rfl hc262_499)).2 ?_
                    show Steps p.tables e below (T522.setTop (mkF m 289 #[.val (.int p1), .val (.int p2), .val (.int p3), .val (.int p4), .val (.int c0), .val (.int c1), .val (.int c2), .val (.int (p4 &&& (7 : Int32))), .val (.ref b415), .val (.int (0 : Int32)), .val (.int (31 : Int32))] [])) _
                    refine XS.iconst X522.here hx rfl (hb hby at_289) ?_
                    show Steps p.tables e below (T522.setTop (mkF m 290 #[.val (.int p1), .val (.int p2), .val (.int p3), .val (.int p4), .val (.int c0), .val (.int c1), .val (.int c2), .val (.int (p4 &&& (7 : Int32))), .val (.ref b415), .val (.int (0 : Int32)), .val (.int (31 : Int32))] [(.int (1 : Int32))])) _
                    refine XS.goto X522.here hx rfl (pc0 := 290) (pc' := 294) rfl (hb hby at_290) (by decide) (by decide) ?_
                    exact k
                  refine EndsW.retN X522 hS0 (by rw [eq522]; exact f514) hx Bd.notSynchronized (t := .boolean) Bd.returns (by simp) (hb hby at_294) (by decide) (by decide) ?_
                  show Q0 Z p1 p2 p3 p4 cs fv h0 n0 (some (.int (nar .boolean (1 : Int32)))) T522.heap _
                  rw [eq522]
                  exact ⟨rfl, N522⟩
                · refine EndsW.go (b := T498.setTop (mkF m 265 #[.val (.int p1), .val (.int p2), .val (.int p3), .val (.int p4), .val (.int c0), .val (.int c1), .val (.int c2), .val (.int (p4 &&& (7 : Int32))), .val (.ref b415), .unset, .val (.int (31 : Int32))] [])) (fun t k => ?_) ?_
                  · show Steps p.tables e below (T498.setTop (mkF m 262 #[.val (.int p1), .val (.int p2), .val (.int p3), .val (.int p4), .val (.int c0), .val (.int c1), .val (.int c2), .val (.int (p4 &&& (7 : Int32))), .val (.ref b415), .unset, .val (.int (31 : Int32))] [(.int (own_okc c2))])) _
                    refine XS.ifNo X498.here hx rfl (hb hby at_262) rfl ((if0 _ _).trans (feq hc262_499).1) ?_
                    show Steps p.tables e below (T498.setTop (mkF m 265 #[.val (.int p1), .val (.int p2), .val (.int p3), .val (.int p4), .val (.int c0), .val (.int c1), .val (.int c2), .val (.int (p4 &&& (7 : Int32))), .val (.ref b415), .unset, .val (.int (31 : Int32))] [])) _
                    exact k
                  refine EndsW.go (b := T498.setTop (mkF m 272 #[.val (.int p1), .val (.int p2), .val (.int p3), .val (.int p4), .val (.int c0), .val (.int c1), .val (.int c2), .val (.int (p4 &&& (7 : Int32))), .val (.ref b415), .val (.int (1 : Int32)), .val (.int (31 : Int32))] [])) (fun t k => ?_) ?_
                  · show Steps p.tables e below (T498.setTop (mkF m 265 #[.val (.int p1), .val (.int p2), .val (.int p3), .val (.int p4), .val (.int c0), .val (.int c1), .val (.int c2), .val (.int (p4 &&& (7 : Int32))), .val (.ref b415), .unset, .val (.int (31 : Int32))] [])) _
                    refine XS.iconst X498.here hx rfl (hb hby at_265) ?_
                    refine XS.goto X498.here hx rfl (pc0 := 266) (pc' := 270) rfl (hb hby at_266) (by decide) (by decide) ?_
                    refine XS.istore X498.here hx rfl (hb hby at_270) rfl (l' := #[.val (.int p1), .val (.int p2), .val (.int p3), .val (.int p4), .val (.int c0), .val (.int c1), .val (.int c2), .val (.int (p4 &&& (7 : Int32))), .val (.ref b415), .val (.int (1 : Int32)), .val (.int (31 : Int32))]) rfl ?_
                    show Steps p.tables e below (T498.setTop (mkF m 272 #[.val (.int p1), .val (.int p2), .val (.int p3), .val (.int p4), .val (.int c0), .val (.int c1), .val (.int c2), .val (.int (p4 &&& (7 : Int32))), .val (.ref b415), .val (.int (1 : Int32)), .val (.int (31 : Int32))] [])) _
                    exact k
                  have Gc523 : Arf Z h440 b415 kb415 .char (31 : Int32) (own_cv (own_chL (0 : Int32) (15 : Int32) (30 : Int32) c0 c1 c2)) := own_aL fa440 hc0 hc1 hc2
                  obtain ⟨T524, h524, X524, e524, E524, A524, D524, -, st524⟩ := newO X498 hx hZ hown (own_w hw 6 rfl) (own_w hw 7 rfl) (own_w hw 8 rfl) eq498 (g := (mkF m 272 #[.val (.int p1), .val (.int p2), .val (.int p3), .val (.int p4), .val (.int c0), .val (.int c1), .val (.int c2), .val (.int (p4 &&& (7 : Int32))), .val (.ref b415), .val (.int (1 : Int32)), .val (.int (31 : Int32))] [])) rfl (hb hby at_272) (by decide) (by decide)
                  obtain ⟨b524, g524⟩ : ∃ z, z = h440.size := ⟨_, rfl⟩
                  rw [← g524] at A524 D524 st524
                  have gn524 : n0 ≤ b524 := Nat.le_trans f441 (Nat.le_of_eq g524.symm)
                  have ne524_b415 : b415 ≠ b524 := Nat.ne_of_lt (Nat.lt_of_lt_of_le Gc523.lt (Nat.le_of_eq g524.symm))
                  have f525 := Nat.le_trans f441 E524.1
                  have f526 := Nat.le_trans f442 E524.1
                  have f527 := f443.ext E524
                  have f528 := f444.ext E524
                  have f529 := f445.ext E524
                  have f530 := f446.ext E524
                  have f531 := f447.ext E524
                  have f532 := Gc523.ext E524
                  have f533 : Fld Z h524 b524 "java/lang/String" "coder" "B" (.int (0 : Int32)) := D524 (Or.inr (own_w hw 32 rfl)) (ty := .byte) (by decide)
                  have f534 : Fld Z h524 b524 "java/lang/String" "value" "[B" .null := D524 (Or.inr (own_w hw 34 rfl)) (ty := (.array .byte)) (by decide)
                  refine EndsW.go st524 ?_
                  show EndsW _ _ _ _ _ _ _ (T524.setTop (mkF m 275 #[.val (.int p1), .val (.int p2), .val (.int p3), .val (.int p4), .val (.int c0), .val (.int c1), .val (.int c2), .val (.int (p4 &&& (7 : Int32))), .val (.ref b415), .val (.int (1 : Int32)), .val (.int (31 : Int32))] [(.ref b524)]))
                  refine EndsW.go (b := T524.setTop (mkF m 278 #[.val (.int p1), .val (.int p2), .val (.int p3), .val (.int p4), .val (.int c0), .val (.int c1), .val (.int c2), .val (.int (p4 &&& (7 : Int32))), .val (.ref b415), .val (.int (1 : Int32)), .val (.int (31 : Int32))] [(.ref b415), (.ref b524), (.ref b524)])) (fun t k => ?_) ?_
                  · show Steps p.tables e below (T524.setTop (mkF m 275 #[.val (.int p1), .val (.int p2), .val (.int p3), .val (.int p4), .val (.int c0), .val (.int c1), .val (.int c2), .val (.int (p4 &&& (7 : Int32))), .val (.ref b415), .val (.int (1 : Int32)), .val (.int (31 : Int32))] [(.ref b524)])) _
                    refine XS.dup X524.here hx rfl (hb hby at_275) rfl rfl ?_
                    refine XS.aload X524.here hx rfl (hb hby at_276) rfl rfl ?_
                    exact k
                  obtain ⟨_, _, ⟨T535, L535, kk535, nn535⟩, -, X535, ⟨Lc535, hQ535, l535, y535, z535⟩, st535⟩ := X524.specialBack hx (y := (⟨"java/lang/String", "<init>", "([C)V"⟩ : MethodName)) rfl hown (mvT hZ (own_w hw 9 rfl)) (mvT hZ (own_w hw 10 rfl)) (mvT hZ (own_w hw 11 rfl)) (by decide) (backOf (W := 1) (rm2 l Z a0 hw [] b524 b415 cs fv kb415 (31 : Int32) (own_chL (0 : Int32) (15 : Int32) (30 : Int32) c0 c1 c2) h524 n0 f525 ⟨f527, hcs, f528, hfv, f529, f530, f531⟩ A524 f534 f533 gn524 (Ne.symm ne524_b415) f532 (by decide) (by decide) (by decide) (own_chLR _ _ _ c0 c1 c2 hc0 hc1 hc2)) hZ (own_w hw 11 rfl) (own_w hw 8 rfl) (by decide) (by decide)) (g := (mkF m 278 #[.val (.int p1), .val (.int p2), .val (.int p3), .val (.int p4), .val (.int c0), .val (.int c1), .val (.int c2), .val (.int (p4 &&& (7 : Int32))), .val (.ref b415), .val (.int (1 : Int32)), .val (.int (31 : Int32))] [(.ref b415), (.ref b524), (.ref b524)])) rfl (by rw [hml]; rfl) (Steps.refl _) (a := b524) (argsL := [(.ref b415)]) (rest := [(.ref b524)]) (lenOf pd_16 rfl) rfl (by show 2 * 0 + _ ≤ _; exact Nat.le_of_eq rfl) (hb hby at_278) (fun _ _ => ⟨rfl, e524, (by decide : 2 + 2 ≤ _), (by decide : 37 + 99 ≤ _)⟩)
                  dsimp only [Pt.U, Pt.locs, Pt.cells, Pt.slots] at X535 l535 y535 z535 st535 hQ535
                  subst l535 y535 z535
                  obtain ⟨rfl, Nq535, K535, Ys535⟩ := hQ535
                  have N535 := Fr.app N498 Nq535
                  have f536 := Nat.le_trans f525 K535.1
                  have f537 := Nat.le_trans f526 K535.1
                  have f538 := own_sta_keep f527 K535 A524
                  have f539 := own_sta_keep f528 K535 A524
                  have f540 := own_sta_keep f529 K535 A524
                  have f541 := own_sta_keep f530 K535 A524
                  have f542 := own_sta_keep f531 K535 A524
                  have f543 := f532.keep K535 (ninS ne524_b415 nin0)
                  have f544 := A524.keep K535
                  refine EndsW.go (fun t k => st535.trans k) ?_
                  show EndsW _ _ _ _ _ _ _ (T535.setTop (mkF m 281 #[.val (.int p1), .val (.int p2), .val (.int p3), .val (.int p4), .val (.int c0), .val (.int c1), .val (.int c2), .val (.int (p4 &&& (7 : Int32))), .val (.ref b415), .val (.int (1 : Int32)), .val (.int (31 : Int32))] [(.ref b524)]))
                  obtain ⟨_, _, ⟨T545, L545, kk545, nn545⟩, -, X545, ⟨Lc545, hQ545, l545, y545, z545⟩, st545⟩ := Jvm.LawKit.callS X535 hx (y := (⟨"com/example/lossfall/lossfall/model/CertificateClass", "isValidName", "(Ljava/lang/String;)Z"⟩ : MethodName)) hown (mvT hZ (own_w hw 35 rfl)) (mvT hZ (own_w hw 36 rfl)) (mvT hZ (own_w hw 37 rfl)) (mvT hZ (own_w hw 38 rfl)) (by decide) (backOf (W := 0) (rm8 l Z a0 hw [] b524 cs fv (31 : Int32) (own_chL (0 : Int32) (15 : Int32) (30 : Int32) c0 c1 c2) T535.heap n0 f536 ⟨f538, hcs, f539, hfv, f540, f541, f542⟩ Ys535 (by decide) (by decide) (own_chLR _ _ _ c0 c1 c2 hc0 hc1 hc2) Ys535.1) hZ (own_w hw 38 rfl) (own_w hw 37 rfl) (by decide) (by decide)) (g := (mkF m 281 #[.val (.int p1), .val (.int p2), .val (.int p3), .val (.int p4), .val (.int c0), .val (.int c1), .val (.int c2), .val (.int (p4 &&& (7 : Int32))), .val (.ref b415), .val (.int (1 : Int32)), .val (.int (31 : Int32))] [(.ref b524)])) rfl (by rw [hml]; rfl) (argsL := [(.ref b524)]) (rest := []) (lenOf pd_17 rfl) rfl (by show 2 * 0 + _ ≤ _; exact Nat.le_of_eq rfl) (hb hby at_281) (fun _ _ => ⟨rfl, rfl, (by decide : 4 + 0 ≤ _), (by decide : 136 + 0 ≤ _)⟩)
                  dsimp only [Pt.U, Pt.locs, Pt.cells, Pt.slots] at X545 l545 y545 z545 st545 hQ545
                  subst l545 y545 z545
                  obtain ⟨rfl, Nq545, eq545⟩ := hQ545
                  have N545 := Fr.app N535 Nq545
                  refine EndsW.go st545 ?_
                  show EndsW _ _ _ _ _ _ _ (T545.setTop (mkF m 284 #[.val (.int p1), .val (.int p2), .val (.int p3), .val (.int p4), .val (.int c0), .val (.int c1), .val (.int c2), .val (.int (p4 &&& (7 : Int32))), .val (.ref b415), .val (.int (1 : Int32)), .val (.int (31 : Int32))] [(.int (own_val (31 : Int32) (own_chL (0 : Int32) (15 : Int32) (30 : Int32) c0 c1 c2)))]))
                  refine EndsW.go (b := T545.setTop (mkF m 294 #[.val (.int p1), .val (.int p2), .val (.int p3), .val (.int p4), .val (.int c0), .val (.int c1), .val (.int c2), .val (.int (p4 &&& (7 : Int32))), .val (.ref b415), .val (.int (1 : Int32)), .val (.int (31 : Int32))] [(.int (1 : Int32))])) (fun t k => ?_) ?_
                  · show Steps p.tables e below (T545.setTop (mkF m 284 #[.val (.int p1), .val (.int p2), .val (.int p3), .val (.int p4), .val (.int c0), .val (.int c1), .val (.int c2), .val (.int (p4 &&& (7 : Int32))), .val (.ref b415), .val (.int (1 : Int32)), .val (.int (31 : Int32))] [(.int (own_val (31 : Int32) (own_chL (0 : Int32) (15 : Int32) (30 : Int32) c0 c1 c2)))])) _
                    refine XS.iload X545.here hx rfl (hb hby at_284) rfl ?_
                    refine XS.icmpNo X545.here hx rfl (hb hby at_286) rfl (teq (own_vOne _ _ (by decide) (by decide) (fun j hj => own_vL _ _ _ c0 c1 c2 j (own_okn _ hc246_449) (own_okn _ hc254_474) (own_okn _ hc262_499)))).2 ?_
                    show Steps p.tables e below (T545.setTop (mkF m 289 #[.val (.int p1), .val (.int p2), .val (.int p3), .val (.int p4), .val (.int c0), .val (.int c1), .val (.int c2), .val (.int (p4 &&& (7 : Int32))), .val (.ref b415), .val (.int (1 : Int32)), .val (.int (31 : Int32))] [])) _
                    refine XS.iconst X545.here hx rfl (hb hby at_289) ?_
                    show Steps p.tables e below (T545.setTop (mkF m 290 #[.val (.int p1), .val (.int p2), .val (.int p3), .val (.int p4), .val (.int c0), .val (.int c1), .val (.int c2), .val (.int (p4 &&& (7 : Int32))), .val (.ref b415), .val (.int (1 : Int32)), .val (.int (31 : Int32))] [(.int (1 : Int32))])) _
                    refine XS.goto X545.here hx rfl (pc0 := 290) (pc' := 294) rfl (hb hby at_290) (by decide) (by decide) ?_
                    exact k
                  refine EndsW.retN X545 hS0 (by rw [eq545]; exact f537) hx Bd.notSynchronized (t := .boolean) Bd.returns (by simp) (hb hby at_294) (by decide) (by decide) ?_
                  show Q0 Z p1 p2 p3 p4 cs fv h0 n0 (some (.int (nar .boolean (1 : Int32)))) T545.heap _
                  rw [eq545]
                  exact ⟨rfl, N545⟩
          · refine EndsW.go (b := s₁.setTop (mkF m 187 #[.val (.int p1), .val (.int p2), .val (.int p3), .val (.int p4), .val (.int c0), .val (.int c1), .val (.int c2), .val (.int (p4 &&& (7 : Int32))), .unset, .unset, .unset] [])) (fun t k => ?_) ?_
            · show Steps p.tables e below (s₁.setTop (mkF m 179 #[.val (.int p1), .val (.int p2), .val (.int p3), .val (.int p4), .val (.int c0), .val (.int c1), .val (.int c2), .val (.int (p4 &&& (7 : Int32))), .unset, .unset, .unset] [(.int (4 : Int32)), (.int (p4 &&& (7 : Int32)))])) _
              refine XS.icmpYes X0.here hx rfl (pc0 := 179) (pc' := 187) rfl (hb hby at_179) rfl (feq hc179_414).2 (by decide) (by decide) ?_
              show Steps p.tables e below (s₁.setTop (mkF m 187 #[.val (.int p1), .val (.int p2), .val (.int p3), .val (.int p4), .val (.int c0), .val (.int c1), .val (.int c2), .val (.int (p4 &&& (7 : Int32))), .unset, .unset, .unset] [])) _
              exact k
            refine EndsW.go (b := s₁.setTop (mkF m 191 #[.val (.int p1), .val (.int p2), .val (.int p3), .val (.int p4), .val (.int c0), .val (.int c1), .val (.int c2), .val (.int (p4 &&& (7 : Int32))), .unset, .unset, .unset] [(.int (6 : Int32)), (.int (p4 &&& (7 : Int32)))])) (fun t k => ?_) ?_
            · show Steps p.tables e below (s₁.setTop (mkF m 187 #[.val (.int p1), .val (.int p2), .val (.int p3), .val (.int p4), .val (.int c0), .val (.int c1), .val (.int c2), .val (.int (p4 &&& (7 : Int32))), .unset, .unset, .unset] [])) _
              refine XS.iload X0.here hx rfl (hb hby at_187) rfl ?_
              refine XS.bipush X0.here hx rfl (hb hby at_189) ?_
              exact k
            by_cases hc191_546 : (p4 &&& (7 : Int32)) = (6 : Int32)
            · refine EndsW.go (b := s₁.setTop (mkF m 194 #[.val (.int p1), .val (.int p2), .val (.int p3), .val (.int p4), .val (.int c0), .val (.int c1), .val (.int c2), .val (.int (p4 &&& (7 : Int32))), .unset, .unset, .unset] [])) (fun t k => ?_) ?_
              · show Steps p.tables e below (s₁.setTop (mkF m 191 #[.val (.int p1), .val (.int p2), .val (.int p3), .val (.int p4), .val (.int c0), .val (.int c1), .val (.int c2), .val (.int (p4 &&& (7 : Int32))), .unset, .unset, .unset] [(.int (6 : Int32)), (.int (p4 &&& (7 : Int32)))])) _
                refine XS.icmpNo X0.here hx rfl (hb hby at_191) rfl (teq hc191_546).2 ?_
                show Steps p.tables e below (s₁.setTop (mkF m 194 #[.val (.int p1), .val (.int p2), .val (.int p3), .val (.int p4), .val (.int c0), .val (.int c1), .val (.int c2), .val (.int (p4 &&& (7 : Int32))), .unset, .unset, .unset] [])) _
                exact k
              refine EndsW.go (b := s₁.setTop (mkF m 205 #[.val (.int p1), .val (.int p2), .val (.int p3), .val (.int p4), .val (.int c0), .val (.int c1), .val (.int c2), .val (.int (p4 &&& (7 : Int32))), .unset, .unset, .val (.int (33 : Int32))] [(.int (33 : Int32))])) (fun t k => ?_) ?_
              · show Steps p.tables e below (s₁.setTop (mkF m 194 #[.val (.int p1), .val (.int p2), .val (.int p3), .val (.int p4), .val (.int c0), .val (.int c1), .val (.int c2), .val (.int (p4 &&& (7 : Int32))), .unset, .unset, .unset] [])) _
                refine XS.bipush X0.here hx rfl (hb hby at_194) ?_
                show Steps p.tables e below (s₁.setTop (mkF m 196 #[.val (.int p1), .val (.int p2), .val (.int p3), .val (.int p4), .val (.int c0), .val (.int c1), .val (.int c2), .val (.int (p4 &&& (7 : Int32))), .unset, .unset, .unset] [(.int (33 : Int32))])) _
                refine XS.goto X0.here hx rfl (pc0 := 196) (pc' := 201) rfl (hb hby at_196) (by decide) (by decide) ?_
                refine XS.istore X0.here hx rfl (hb hby at_201) rfl (l' := #[.val (.int p1), .val (.int p2), .val (.int p3), .val (.int p4), .val (.int c0), .val (.int c1), .val (.int c2), .val (.int (p4 &&& (7 : Int32))), .unset, .unset, .val (.int (33 : Int32))]) rfl ?_
                refine XS.iload X0.here hx rfl (hb hby at_203) rfl ?_
                exact k
              obtain ⟨_, _, ⟨T547, L547, kk547, nn547⟩, -, X547, ⟨Lc547, hQ547, l547, y547, z547⟩, st547⟩ := Jvm.LawKit.callS X0 hx (y := (⟨"com/example/lossfall/lossfall/model/CertificateClassIsValidNamePinLaw", "base", "(I)[C"⟩ : MethodName)) hown (mvT hZ (own_w hw 79 rfl)) (mvT hZ (own_w hw 80 rfl)) (mvT hZ (own_w hw 4 rfl)) (mvT hZ (own_w hw 81 rfl)) (by decide) (backOf (W := 0) (rmB33 l Z a0 hw [] h0 n0 Z0) hZ (own_w hw 81 rfl) (own_w hw 4 rfl) (by decide) (by decide)) (g := (mkF m 205 #[.val (.int p1), .val (.int p2), .val (.int p3), .val (.int p4), .val (.int c0), .val (.int c1), .val (.int c2), .val (.int (p4 &&& (7 : Int32))), .unset, .unset, .val (.int (33 : Int32))] [(.int (33 : Int32))])) rfl (by rw [hml]; rfl) (argsL := [(.int (33 : Int32))]) (rest := []) (lenOf pd_19 rfl) rfl (by show 2 * 0 + _ ≤ _; exact Nat.le_of_eq rfl) (hb hby at_205) (fun _ _ => ⟨rfl, e0, (by decide : 0 + 1 ≤ _), (by decide : 0 + 33 ≤ _)⟩)
              dsimp only [Pt.U, Pt.locs, Pt.cells, Pt.slots] at X547 l547 y547 z547 st547 hQ547
              subst l547 y547 z547
              obtain ⟨b547, kb547, rfl, Nq547, K547, hb547, G547⟩ := hQ547
              have N547 := Fr.app N0 Nq547
              have gn547 : n0 ≤ b547 := Nat.le_trans Z0 hb547
              have f548 := Nat.le_trans Z0 K547.1
              have f549 := Nat.le_trans hk0 K547.1
              have f551 := own_sta_keep0 S_C K547
              have f552 := own_sta_keep0 S_F K547
              have f553 := own_sta_keep0 S_A K547
              have f554 := own_sta_keep0 S_H K547
              have f555 := own_sta_keep0 S_L K547
              refine EndsW.go st547 ?_
              show EndsW _ _ _ _ _ _ _ (T547.setTop (mkF m 208 #[.val (.int p1), .val (.int p2), .val (.int p3), .val (.int p4), .val (.int c0), .val (.int c1), .val (.int c2), .val (.int (p4 &&& (7 : Int32))), .unset, .unset, .val (.int (33 : Int32))] [(.ref b547)]))
              refine EndsW.go (b := T547.setTop (mkF m 215 #[.val (.int p1), .val (.int p2), .val (.int p3), .val (.int p4), .val (.int c0), .val (.int c1), .val (.int c2), .val (.int (p4 &&& (7 : Int32))), .val (.ref b547), .unset, .val (.int (33 : Int32))] [(.int c0), (.int (0 : Int32)), (.ref b547)])) (fun t k => ?_) ?_
              · show Steps p.tables e below (T547.setTop (mkF m 208 #[.val (.int p1), .val (.int p2), .val (.int p3), .val (.int p4), .val (.int c0), .val (.int c1), .val (.int c2), .val (.int (p4 &&& (7 : Int32))), .unset, .unset, .val (.int (33 : Int32))] [(.ref b547)])) _
                refine XS.astore X547.here hx rfl (hb hby at_208) rfl rfl (l' := #[.val (.int p1), .val (.int p2), .val (.int p3), .val (.int p4), .val (.int c0), .val (.int c1), .val (.int c2), .val (.int (p4 &&& (7 : Int32))), .val (.ref b547), .unset, .val (.int (33 : Int32))]) rfl ?_
                show Steps p.tables e below (T547.setTop (mkF m 210 #[.val (.int p1), .val (.int p2), .val (.int p3), .val (.int p4), .val (.int c0), .val (.int c1), .val (.int c2), .val (.int (p4 &&& (7 : Int32))), .val (.ref b547), .unset, .val (.int (33 : Int32))] [])) _
                refine XS.aload X547.here hx rfl (hb hby at_210) rfl rfl ?_
                refine XS.iconst X547.here hx rfl (hb hby at_212) ?_
                refine XS.iload X547.here hx rfl (hb hby at_213) rfl ?_
                exact k
              obtain ⟨cl556, Ar556, q556, S556, M556, H556, G556⟩ := id G547
              have hin556 : ¬ ((0 : Int32) < 0 ∨ cl556.slots.size ≤ ((0 : Int32)).toNatClampNeg) := inb_of S556 ⟨by decide, by decide⟩
              obtain ⟨T556, h556, X556, e556, W556, st556⟩ := stC X547 hx hZ rfl Ar556 (j := (0 : Int32)) hin556 (g := (mkF m 215 #[.val (.int p1), .val (.int p2), .val (.int p3), .val (.int p4), .val (.int c0), .val (.int c1), .val (.int c2), .val (.int (p4 &&& (7 : Int32))), .val (.ref b547), .unset, .val (.int (33 : Int32))] [(.int c0), (.int (0 : Int32)), (.ref b547)])) rfl rfl (hb hby at_215)
              have fa556 := Arf.set (v := .int (nar .char c0)) Ar556 q556 S556 M556 H556 G556 (fits_nar_char c0) W556
              have f557 := Nat.le_trans f548 (Keep.of_wr W556).1
              have f558 := Nat.le_trans f549 (Keep.of_wr W556).1
              have f559 := f551.wr W556
              have f560 := f552.wr W556
              have f561 := f553.wr W556
              have f562 := f554.wr W556
              have f563 := f555.wr W556
              have N556 := Fr.snoc X556 N547 gn547
              refine EndsW.go st556 ?_
              show EndsW _ _ _ _ _ _ _ (T556.setTop (mkF m 216 #[.val (.int p1), .val (.int p2), .val (.int p3), .val (.int p4), .val (.int c0), .val (.int c1), .val (.int c2), .val (.int (p4 &&& (7 : Int32))), .val (.ref b547), .unset, .val (.int (33 : Int32))] []))
              refine EndsW.go (b := T556.setTop (mkF m 224 #[.val (.int p1), .val (.int p2), .val (.int p3), .val (.int p4), .val (.int c0), .val (.int c1), .val (.int c2), .val (.int (p4 &&& (7 : Int32))), .val (.ref b547), .unset, .val (.int (33 : Int32))] [(.int c1), (.int (16 : Int32)), (.ref b547)])) (fun t k => ?_) ?_
              · show Steps p.tables e below (T556.setTop (mkF m 216 #[.val (.int p1), .val (.int p2), .val (.int p3), .val (.int p4), .val (.int c0), .val (.int c1), .val (.int c2), .val (.int (p4 &&& (7 : Int32))), .val (.ref b547), .unset, .val (.int (33 : Int32))] [])) _
                refine XS.aload X556.here hx rfl (hb hby at_216) rfl rfl ?_
                show Steps p.tables e below (T556.setTop (mkF m 218 #[.val (.int p1), .val (.int p2), .val (.int p3), .val (.int p4), .val (.int c0), .val (.int c1), .val (.int c2), .val (.int (p4 &&& (7 : Int32))), .val (.ref b547), .unset, .val (.int (33 : Int32))] [(.ref b547)])) _
                refine XS.iload X556.here hx rfl (hb hby at_218) rfl ?_
                refine XS.iconst X556.here hx rfl (hb hby at_220) ?_
                refine XS.idiv X556.here hx rfl (hb hby at_221) rfl (by decide) ?_
                show Steps p.tables e below (T556.setTop (mkF m 222 #[.val (.int p1), .val (.int p2), .val (.int p3), .val (.int p4), .val (.int c0), .val (.int c1), .val (.int c2), .val (.int (p4 &&& (7 : Int32))), .val (.ref b547), .unset, .val (.int (33 : Int32))] [(.int ((33 : Int32) / (2 : Int32))), (.ref b547)])) _
                rw [(by decide : ((33 : Int32) / (2 : Int32)) = (16 : Int32))]
                show Steps p.tables e below (T556.setTop (mkF m 222 #[.val (.int p1), .val (.int p2), .val (.int p3), .val (.int p4), .val (.int c0), .val (.int c1), .val (.int c2), .val (.int (p4 &&& (7 : Int32))), .val (.ref b547), .unset, .val (.int (33 : Int32))] [(.int (16 : Int32)), (.ref b547)])) _
                refine XS.iload X556.here hx rfl (hb hby at_222) rfl ?_
                show Steps p.tables e below (T556.setTop (mkF m 224 #[.val (.int p1), .val (.int p2), .val (.int p3), .val (.int p4), .val (.int c0), .val (.int c1), .val (.int c2), .val (.int (p4 &&& (7 : Int32))), .val (.ref b547), .unset, .val (.int (33 : Int32))] [(.int c1), (.int (16 : Int32)), (.ref b547)])) _
                exact k
              obtain ⟨cl564, Ar564, q564, S564, M564, H564, G564⟩ := id fa556
              have hin564 : ¬ ((16 : Int32) < 0 ∨ cl564.slots.size ≤ ((16 : Int32)).toNatClampNeg) := inb_of S564 ⟨by decide, by decide⟩
              obtain ⟨T564, h564, X564, e564, W564, st564⟩ := stC X556 hx hZ e556 Ar564 (j := (16 : Int32)) hin564 (g := (mkF m 224 #[.val (.int p1), .val (.int p2), .val (.int p3), .val (.int p4), .val (.int c0), .val (.int c1), .val (.int c2), .val (.int (p4 &&& (7 : Int32))), .val (.ref b547), .unset, .val (.int (33 : Int32))] [(.int c1), (.int (16 : Int32)), (.ref b547)])) rfl rfl (hb hby at_224)
              have fa564 := Arf.set (v := .int (nar .char c1)) Ar564 q564 S564 M564 H564 G564 (fits_nar_char c1) W564
              have f565 := Nat.le_trans f557 (Keep.of_wr W564).1
              have f566 := Nat.le_trans f558 (Keep.of_wr W564).1
              have f567 := f559.wr W564
              have f568 := f560.wr W564
              have f569 := f561.wr W564
              have f570 := f562.wr W564
              have f571 := f563.wr W564
              have N564 := Fr.snoc X564 N556 gn547
              refine EndsW.go st564 ?_
              show EndsW _ _ _ _ _ _ _ (T564.setTop (mkF m 225 #[.val (.int p1), .val (.int p2), .val (.int p3), .val (.int p4), .val (.int c0), .val (.int c1), .val (.int c2), .val (.int (p4 &&& (7 : Int32))), .val (.ref b547), .unset, .val (.int (33 : Int32))] []))
              refine EndsW.go (b := T564.setTop (mkF m 233 #[.val (.int p1), .val (.int p2), .val (.int p3), .val (.int p4), .val (.int c0), .val (.int c1), .val (.int c2), .val (.int (p4 &&& (7 : Int32))), .val (.ref b547), .unset, .val (.int (33 : Int32))] [(.int c2), (.int (32 : Int32)), (.ref b547)])) (fun t k => ?_) ?_
              · show Steps p.tables e below (T564.setTop (mkF m 225 #[.val (.int p1), .val (.int p2), .val (.int p3), .val (.int p4), .val (.int c0), .val (.int c1), .val (.int c2), .val (.int (p4 &&& (7 : Int32))), .val (.ref b547), .unset, .val (.int (33 : Int32))] [])) _
                refine XS.aload X564.here hx rfl (hb hby at_225) rfl rfl ?_
                refine XS.iload X564.here hx rfl (hb hby at_227) rfl ?_
                refine XS.iconst X564.here hx rfl (hb hby at_229) ?_
                refine XS.isub X564.here hx rfl (hb hby at_230) rfl ?_
                show Steps p.tables e below (T564.setTop (mkF m 231 #[.val (.int p1), .val (.int p2), .val (.int p3), .val (.int p4), .val (.int c0), .val (.int c1), .val (.int c2), .val (.int (p4 &&& (7 : Int32))), .val (.ref b547), .unset, .val (.int (33 : Int32))] [(.int ((33 : Int32) - (1 : Int32))), (.ref b547)])) _
                rw [(by decide : ((33 : Int32) - (1 : Int32)) = (32 : Int32))]
                show Steps p.tables e below (T564.setTop (mkF m 231 #[.val (.int p1), .val (.int p2), .val (.int p3), .val (.int p4), .val (.int c0), .val (.int c1), .val (.int c2), .val (.int (p4 &&& (7 : Int32))), .val (.ref b547), .unset, .val (.int (33 : Int32))] [(.int (32 : Int32)), (.ref b547)])) _
                refine XS.iload X564.here hx rfl (hb hby at_231) rfl ?_
                exact k
              obtain ⟨cl572, Ar572, q572, S572, M572, H572, G572⟩ := id fa564
              have hin572 : ¬ ((32 : Int32) < 0 ∨ cl572.slots.size ≤ ((32 : Int32)).toNatClampNeg) := inb_of S572 ⟨by decide, by decide⟩
              obtain ⟨T572, h572, X572, e572, W572, st572⟩ := stC X564 hx hZ e564 Ar572 (j := (32 : Int32)) hin572 (g := (mkF m 233 #[.val (.int p1), .val (.int p2), .val (.int p3), .val (.int p4), .val (.int c0), .val (.int c1), .val (.int c2), .val (.int (p4 &&& (7 : Int32))), .val (.ref b547), .unset, .val (.int (33 : Int32))] [(.int c2), (.int (32 : Int32)), (.ref b547)])) rfl rfl (hb hby at_233)
              have fa572 := Arf.set (v := .int (nar .char c2)) Ar572 q572 S572 M572 H572 G572 (fits_nar_char c2) W572
              have f573 := Nat.le_trans f565 (Keep.of_wr W572).1
              have f574 := Nat.le_trans f566 (Keep.of_wr W572).1
              have f575 := f567.wr W572
              have f576 := f568.wr W572
              have f577 := f569.wr W572
              have f578 := f570.wr W572
              have f579 := f571.wr W572
              have N572 := Fr.snoc X572 N564 gn547
              refine EndsW.go st572 ?_
              show EndsW _ _ _ _ _ _ _ (T572.setTop (mkF m 234 #[.val (.int p1), .val (.int p2), .val (.int p3), .val (.int p4), .val (.int c0), .val (.int c1), .val (.int c2), .val (.int (p4 &&& (7 : Int32))), .val (.ref b547), .unset, .val (.int (33 : Int32))] []))
              refine EndsW.go (b := T572.setTop (mkF m 272 #[.val (.int p1), .val (.int p2), .val (.int p3), .val (.int p4), .val (.int c0), .val (.int c1), .val (.int c2), .val (.int (p4 &&& (7 : Int32))), .val (.ref b547), .val (.int (0 : Int32)), .val (.int (33 : Int32))] [])) (fun t k => ?_) ?_
              · show Steps p.tables e below (T572.setTop (mkF m 234 #[.val (.int p1), .val (.int p2), .val (.int p3), .val (.int p4), .val (.int c0), .val (.int c1), .val (.int c2), .val (.int (p4 &&& (7 : Int32))), .val (.ref b547), .unset, .val (.int (33 : Int32))] [])) _
                refine XS.iload X572.here hx rfl (hb hby at_234) rfl ?_
                refine XS.bipush X572.here hx rfl (hb hby at_236) ?_
                refine XS.icmpYes X572.here hx rfl (pc0 := 238) (pc' := 269) rfl (hb hby at_238) rfl (tlt (by decide)).2.2.1 (by decide) (by decide) ?_
                show Steps p.tables e below (T572.setTop (mkF m 269 #[.val (.int p1), .val (.int p2), .val (.int p3), .val (.int p4), .val (.int c0), .val (.int c1), .val (.int c2), .val (.int (p4 &&& (7 : Int32))), .val (.ref b547), .unset, .val (.int (33 : Int32))] [])) _
                refine XS.iconst X572.here hx rfl (hb hby at_269) ?_
                show Steps p.tables e below (T572.setTop (mkF m 270 #[.val (.int p1), .val (.int p2), .val (.int p3), .val (.int p4), .val (.int c0), .val (.int c1), .val (.int c2), .val (.int (p4 &&& (7 : Int32))), .val (.ref b547), .unset, .val (.int (33 : Int32))] [(.int (0 : Int32))])) _
                refine XS.istore X572.here hx rfl (hb hby at_270) rfl (l' := #[.val (.int p1), .val (.int p2), .val (.int p3), .val (.int p4), .val (.int c0), .val (.int c1), .val (.int c2), .val (.int (p4 &&& (7 : Int32))), .val (.ref b547), .val (.int (0 : Int32)), .val (.int (33 : Int32))]) rfl ?_
                exact k
              have Gc580 : Arf Z h572 b547 kb547 .char (33 : Int32) (own_cv (own_chL (0 : Int32) (16 : Int32) (32 : Int32) c0 c1 c2)) := own_aL fa572 hc0 hc1 hc2
              obtain ⟨T581, h581, X581, e581, E581, A581, D581, -, st581⟩ := newO X572 hx hZ hown (own_w hw 6 rfl) (own_w hw 7 rfl) (own_w hw 8 rfl) e572 (g := (mkF m 272 #[.val (.int p1), .val (.int p2), .val (.int p3), .val (.int p4), .val (.int c0), .val (.int c1), .val (.int c2), .val (.int (p4 &&& (7 : Int32))), .val (.ref b547), .val (.int (0 : Int32)), .val (.int (33 : Int32))] [])) rfl (hb hby at_272) (by decide) (by decide)
              obtain ⟨b581, g581⟩ : ∃ z, z = h572.size := ⟨_, rfl⟩
              rw [← g581] at A581 D581 st581
              have gn581 : n0 ≤ b581 := Nat.le_trans f573 (Nat.le_of_eq g581.symm)
              have ne581_b547 : b547 ≠ b581 := Nat.ne_of_lt (Nat.lt_of_lt_of_le Gc580.lt (Nat.le_of_eq g581.symm))
              have f582 := Nat.le_trans f573 E581.1
              have f583 := Nat.le_trans f574 E581.1
              have f584 := f575.ext E581
              have f585 := f576.ext E581
              have f586 := f577.ext E581
              have f587 := f578.ext E581
              have f588 := f579.ext E581
              have f589 := Gc580.ext E581
              have f590 : Fld Z h581 b581 "java/lang/String" "coder" "B" (.int (0 : Int32)) := D581 (Or.inr (own_w hw 32 rfl)) (ty := .byte) (by decide)
              have f591 : Fld Z h581 b581 "java/lang/String" "value" "[B" .null := D581 (Or.inr (own_w hw 34 rfl)) (ty := (.array .byte)) (by decide)
              refine EndsW.go st581 ?_
              show EndsW _ _ _ _ _ _ _ (T581.setTop (mkF m 275 #[.val (.int p1), .val (.int p2), .val (.int p3), .val (.int p4), .val (.int c0), .val (.int c1), .val (.int c2), .val (.int (p4 &&& (7 : Int32))), .val (.ref b547), .val (.int (0 : Int32)), .val (.int (33 : Int32))] [(.ref b581)]))
              refine EndsW.go (b := T581.setTop (mkF m 278 #[.val (.int p1), .val (.int p2), .val (.int p3), .val (.int p4), .val (.int c0), .val (.int c1), .val (.int c2), .val (.int (p4 &&& (7 : Int32))), .val (.ref b547), .val (.int (0 : Int32)), .val (.int (33 : Int32))] [(.ref b547), (.ref b581), (.ref b581)])) (fun t k => ?_) ?_
              · show Steps p.tables e below (T581.setTop (mkF m 275 #[.val (.int p1), .val (.int p2), .val (.int p3), .val (.int p4), .val (.int c0), .val (.int c1), .val (.int c2), .val (.int (p4 &&& (7 : Int32))), .val (.ref b547), .val (.int (0 : Int32)), .val (.int (33 : Int32))] [(.ref b581)])) _
                refine XS.dup X581.here hx rfl (hb hby at_275) rfl rfl ?_
                refine XS.aload X581.here hx rfl (hb hby at_276) rfl rfl ?_
                exact k
              obtain ⟨_, _, ⟨T592, L592, kk592, nn592⟩, -, X592, ⟨Lc592, hQ592, l592, y592, z592⟩, st592⟩ := X581.specialBack hx (y := (⟨"java/lang/String", "<init>", "([C)V"⟩ : MethodName)) rfl hown (mvT hZ (own_w hw 9 rfl)) (mvT hZ (own_w hw 10 rfl)) (mvT hZ (own_w hw 11 rfl)) (by decide) (backOf (W := 1) (rm2 l Z a0 hw [] b581 b547 cs fv kb547 (33 : Int32) (own_chL (0 : Int32) (16 : Int32) (32 : Int32) c0 c1 c2) h581 n0 f582 ⟨f584, hcs, f585, hfv, f586, f587, f588⟩ A581 f591 f590 gn581 (Ne.symm ne581_b547) f589 (by decide) (by decide) (by decide) (own_chLR _ _ _ c0 c1 c2 hc0 hc1 hc2)) hZ (own_w hw 11 rfl) (own_w hw 8 rfl) (by decide) (by decide)) (g := (mkF m 278 #[.val (.int p1), .val (.int p2), .val (.int p3), .val (.int p4), .val (.int c0), .val (.int c1), .val (.int c2), .val (.int (p4 &&& (7 : Int32))), .val (.ref b547), .val (.int (0 : Int32)), .val (.int (33 : Int32))] [(.ref b547), (.ref b581), (.ref b581)])) rfl (by rw [hml]; rfl) (Steps.refl _) (a := b581) (argsL := [(.ref b547)]) (rest := [(.ref b581)]) (lenOf pd_16 rfl) rfl (by show 2 * 0 + _ ≤ _; exact Nat.le_of_eq rfl) (hb hby at_278) (fun _ _ => ⟨rfl, e581, (by decide : 2 + 2 ≤ _), (by decide : 37 + 99 ≤ _)⟩)
              dsimp only [Pt.U, Pt.locs, Pt.cells, Pt.slots] at X592 l592 y592 z592 st592 hQ592
              subst l592 y592 z592
              obtain ⟨rfl, Nq592, K592, Ys592⟩ := hQ592
              have N592 := Fr.app N572 Nq592
              have f593 := Nat.le_trans f582 K592.1
              have f594 := Nat.le_trans f583 K592.1
              have f595 := own_sta_keep f584 K592 A581
              have f596 := own_sta_keep f585 K592 A581
              have f597 := own_sta_keep f586 K592 A581
              have f598 := own_sta_keep f587 K592 A581
              have f599 := own_sta_keep f588 K592 A581
              have f600 := f589.keep K592 (ninS ne581_b547 nin0)
              have f601 := A581.keep K592
              refine EndsW.go (fun t k => st592.trans k) ?_
              show EndsW _ _ _ _ _ _ _ (T592.setTop (mkF m 281 #[.val (.int p1), .val (.int p2), .val (.int p3), .val (.int p4), .val (.int c0), .val (.int c1), .val (.int c2), .val (.int (p4 &&& (7 : Int32))), .val (.ref b547), .val (.int (0 : Int32)), .val (.int (33 : Int32))] [(.ref b581)]))
              obtain ⟨_, _, ⟨T602, L602, kk602, nn602⟩, -, X602, ⟨Lc602, hQ602, l602, y602, z602⟩, st602⟩ := Jvm.LawKit.callS X592 hx (y := (⟨"com/example/lossfall/lossfall/model/CertificateClass", "isValidName", "(Ljava/lang/String;)Z"⟩ : MethodName)) hown (mvT hZ (own_w hw 35 rfl)) (mvT hZ (own_w hw 36 rfl)) (mvT hZ (own_w hw 37 rfl)) (mvT hZ (own_w hw 38 rfl)) (by decide) (backOf (W := 0) (rm8 l Z a0 hw [] b581 cs fv (33 : Int32) (own_chL (0 : Int32) (16 : Int32) (32 : Int32) c0 c1 c2) T592.heap n0 f593 ⟨f595, hcs, f596, hfv, f597, f598, f599⟩ Ys592 (by decide) (by decide) (own_chLR _ _ _ c0 c1 c2 hc0 hc1 hc2) Ys592.1) hZ (own_w hw 38 rfl) (own_w hw 37 rfl) (by decide) (by decide)) (g := (mkF m 281 #[.val (.int p1), .val (.int p2), .val (.int p3), .val (.int p4), .val (.int c0), .val (.int c1), .val (.int c2), .val (.int (p4 &&& (7 : Int32))), .val (.ref b547), .val (.int (0 : Int32)), .val (.int (33 : Int32))] [(.ref b581)])) rfl (by rw [hml]; rfl) (argsL := [(.ref b581)]) (rest := []) (lenOf pd_17 rfl) rfl (by show 2 * 0 + _ ≤ _; exact Nat.le_of_eq rfl) (hb hby at_281) (fun _ _ => ⟨rfl, rfl, (by decide : 4 + 0 ≤ _), (by decide : 136 + 0 ≤ _)⟩)
              dsimp only [Pt.U, Pt.locs, Pt.cells, Pt.slots] at X602 l602 y602 z602 st602 hQ602
              subst l602 y602 z602
              obtain ⟨rfl, Nq602, eq602⟩ := hQ602
              have N602 := Fr.app N592 Nq602
              refine EndsW.go st602 ?_
              show EndsW _ _ _ _ _ _ _ (T602.setTop (mkF m 284 #[.val (.int p1), .val (.int p2), .val (.int p3), .val (.int p4), .val (.int c0), .val (.int c1), .val (.int c2), .val (.int (p4 &&& (7 : Int32))), .val (.ref b547), .val (.int (0 : Int32)), .val (.int (33 : Int32))] [(.int (own_val (33 : Int32) (own_chL (0 : Int32) (16 : Int32) (32 : Int32) c0 c1 c2)))]))
              refine EndsW.go (b := T602.setTop (mkF m 294 #[.val (.int p1), .val (.int p2), .val (.int p3), .val (.int p4), .val (.int c0), .val (.int c1), .val (.int c2), .val (.int (p4 &&& (7 : Int32))), .val (.ref b547), .val (.int (0 : Int32)), .val (.int (33 : Int32))] [(.int (1 : Int32))])) (fun t k => ?_) ?_
              · show Steps p.tables e below (T602.setTop (mkF m 284 #[.val (.int p1), .val (.int p2), .val (.int p3), .val (.int p4), .val (.int c0), .val (.int c1), .val (.int c2), .val (.int (p4 &&& (7 : Int32))), .val (.ref b547), .val (.int (0 : Int32)), .val (.int (33 : Int32))] [(.int (own_val (33 : Int32) (own_chL (0 : Int32) (16 : Int32) (32 : Int32) c0 c1 c2)))])) _
                refine XS.iload X602.here hx rfl (hb hby at_284) rfl ?_
                show Steps p.tables e below (T602.setTop (mkF m 286 #[.val (.int p1), .val (.int p2), .val (.int p3), .val (.int p4), .val (.int c0), .val (.int c1), .val (.int c2), .val (.int (p4 &&& (7 : Int32))), .val (.ref b547), .val (.int (0 : Int32)), .val (.int (33 : Int32))] [(.int (0 : Int32)), (.int (own_val (33 : Int32) (own_chL (0 : Int32) (16 : Int32) (32 : Int32) c0 c1 c2)))])) _
                refine XS.icmpNo X602.here hx rfl (hb hby at_286) rfl (teq (own_v33 _)).2 ?_
                show Steps p.tables e below (T602.setTop (mkF m 289 #[.val (.int p1), .val (.int p2), .val (.int p3), .val (.int p4), .val (.int c0), .val (.int c1), .val (.int c2), .val (.int (p4 &&& (7 : Int32))), .val (.ref b547), .val (.int (0 : Int32)), .val (.int (33 : Int32))] [])) _
                refine XS.iconst X602.here hx rfl (hb hby at_289) ?_
                refine XS.goto X602.here hx rfl (pc0 := 290) (pc' := 294) rfl (hb hby at_290) (by decide) (by decide) ?_
                exact k
              refine EndsW.retN X602 hS0 (by rw [eq602]; exact f594) hx Bd.notSynchronized (t := .boolean) Bd.returns (by simp) (hb hby at_294) (by decide) (by decide) ?_
              show Q0 Z p1 p2 p3 p4 cs fv h0 n0 (some (.int (nar .boolean (1 : Int32)))) T602.heap _
              rw [eq602]
              exact ⟨rfl, N602⟩
            · refine EndsW.go (b := s₁.setTop (mkF m 199 #[.val (.int p1), .val (.int p2), .val (.int p3), .val (.int p4), .val (.int c0), .val (.int c1), .val (.int c2), .val (.int (p4 &&& (7 : Int32))), .unset, .unset, .unset] [])) (fun t k => ?_) ?_
              · show Steps p.tables e below (s₁.setTop (mkF m 191 #[.val (.int p1), .val (.int p2), .val (.int p3), .val (.int p4), .val (.int c0), .val (.int c1), .val (.int c2), .val (.int (p4 &&& (7 : Int32))), .unset, .unset, .unset] [(.int (6 : Int32)), (.int (p4 &&& (7 : Int32)))])) _
                refine XS.icmpYes X0.here hx rfl (pc0 := 191) (pc' := 199) rfl (hb hby at_191) rfl (feq hc191_546).2 (by decide) (by decide) ?_
                show Steps p.tables e below (s₁.setTop (mkF m 199 #[.val (.int p1), .val (.int p2), .val (.int p3), .val (.int p4), .val (.int c0), .val (.int c1), .val (.int c2), .val (.int (p4 &&& (7 : Int32))), .unset, .unset, .unset] [])) _
                exact k
              refine EndsW.go (b := s₁.setTop (mkF m 205 #[.val (.int p1), .val (.int p2), .val (.int p3), .val (.int p4), .val (.int c0), .val (.int c1), .val (.int c2), .val (.int (p4 &&& (7 : Int32))), .unset, .unset, .val (.int (32 : Int32))] [(.int (32 : Int32))])) (fun t k => ?_) ?_
              · show Steps p.tables e below (s₁.setTop (mkF m 199 #[.val (.int p1), .val (.int p2), .val (.int p3), .val (.int p4), .val (.int c0), .val (.int c1), .val (.int c2), .val (.int (p4 &&& (7 : Int32))), .unset, .unset, .unset] [])) _
                refine XS.bipush X0.here hx rfl (hb hby at_199) ?_
                refine XS.istore X0.here hx rfl (hb hby at_201) rfl (l' := #[.val (.int p1), .val (.int p2), .val (.int p3), .val (.int p4), .val (.int c0), .val (.int c1), .val (.int c2), .val (.int (p4 &&& (7 : Int32))), .unset, .unset, .val (.int (32 : Int32))]) rfl ?_
                show Steps p.tables e below (s₁.setTop (mkF m 203 #[.val (.int p1), .val (.int p2), .val (.int p3), .val (.int p4), .val (.int c0), .val (.int c1), .val (.int c2), .val (.int (p4 &&& (7 : Int32))), .unset, .unset, .val (.int (32 : Int32))] [])) _
                refine XS.iload X0.here hx rfl (hb hby at_203) rfl ?_
                exact k
              obtain ⟨_, _, ⟨T603, L603, kk603, nn603⟩, -, X603, ⟨Lc603, hQ603, l603, y603, z603⟩, st603⟩ := Jvm.LawKit.callS X0 hx (y := (⟨"com/example/lossfall/lossfall/model/CertificateClassIsValidNamePinLaw", "base", "(I)[C"⟩ : MethodName)) hown (mvT hZ (own_w hw 79 rfl)) (mvT hZ (own_w hw 80 rfl)) (mvT hZ (own_w hw 4 rfl)) (mvT hZ (own_w hw 81 rfl)) (by decide) (backOf (W := 0) (rmB32 l Z a0 hw [] h0 n0 Z0) hZ (own_w hw 81 rfl) (own_w hw 4 rfl) (by decide) (by decide)) (g := (mkF m 205 #[.val (.int p1), .val (.int p2), .val (.int p3), .val (.int p4), .val (.int c0), .val (.int c1), .val (.int c2), .val (.int (p4 &&& (7 : Int32))), .unset, .unset, .val (.int (32 : Int32))] [(.int (32 : Int32))])) rfl (by rw [hml]; rfl) (argsL := [(.int (32 : Int32))]) (rest := []) (lenOf pd_19 rfl) rfl (by show 2 * 0 + _ ≤ _; exact Nat.le_of_eq rfl) (hb hby at_205) (fun _ _ => ⟨rfl, e0, (by decide : 0 + 1 ≤ _), (by decide : 0 + 33 ≤ _)⟩)
              dsimp only [Pt.U, Pt.locs, Pt.cells, Pt.slots] at X603 l603 y603 z603 st603 hQ603
              subst l603 y603 z603
              obtain ⟨b603, kb603, rfl, Nq603, K603, hb603, G603⟩ := hQ603
              have N603 := Fr.app N0 Nq603
              have gn603 : n0 ≤ b603 := Nat.le_trans Z0 hb603
              have f604 := Nat.le_trans Z0 K603.1
              have f605 := Nat.le_trans hk0 K603.1
              have f607 := own_sta_keep0 S_C K603
              have f608 := own_sta_keep0 S_F K603
              have f609 := own_sta_keep0 S_A K603
              have f610 := own_sta_keep0 S_H K603
              have f611 := own_sta_keep0 S_L K603
              refine EndsW.go st603 ?_
              show EndsW _ _ _ _ _ _ _ (T603.setTop (mkF m 208 #[.val (.int p1), .val (.int p2), .val (.int p3), .val (.int p4), .val (.int c0), .val (.int c1), .val (.int c2), .val (.int (p4 &&& (7 : Int32))), .unset, .unset, .val (.int (32 : Int32))] [(.ref b603)]))
              refine EndsW.go (b := T603.setTop (mkF m 215 #[.val (.int p1), .val (.int p2), .val (.int p3), .val (.int p4), .val (.int c0), .val (.int c1), .val (.int c2), .val (.int (p4 &&& (7 : Int32))), .val (.ref b603), .unset, .val (.int (32 : Int32))] [(.int c0), (.int (0 : Int32)), (.ref b603)])) (fun t k => ?_) ?_
              · show Steps p.tables e below (T603.setTop (mkF m 208 #[.val (.int p1), .val (.int p2), .val (.int p3), .val (.int p4), .val (.int c0), .val (.int c1), .val (.int c2), .val (.int (p4 &&& (7 : Int32))), .unset, .unset, .val (.int (32 : Int32))] [(.ref b603)])) _
                refine XS.astore X603.here hx rfl (hb hby at_208) rfl rfl (l' := #[.val (.int p1), .val (.int p2), .val (.int p3), .val (.int p4), .val (.int c0), .val (.int c1), .val (.int c2), .val (.int (p4 &&& (7 : Int32))), .val (.ref b603), .unset, .val (.int (32 : Int32))]) rfl ?_
                refine XS.aload X603.here hx rfl (hb hby at_210) rfl rfl ?_
                refine XS.iconst X603.here hx rfl (hb hby at_212) ?_
                show Steps p.tables e below (T603.setTop (mkF m 213 #[.val (.int p1), .val (.int p2), .val (.int p3), .val (.int p4), .val (.int c0), .val (.int c1), .val (.int c2), .val (.int (p4 &&& (7 : Int32))), .val (.ref b603), .unset, .val (.int (32 : Int32))] [(.int (0 : Int32)), (.ref b603)])) _
                refine XS.iload X603.here hx rfl (hb hby at_213) rfl ?_
                exact k
              obtain ⟨cl612, Ar612, q612, S612, M612, H612, G612⟩ := id G603
              have hin612 : ¬ ((0 : Int32) < 0 ∨ cl612.slots.size ≤ ((0 : Int32)).toNatClampNeg) := inb_of S612 ⟨by decide, by decide⟩
              obtain ⟨T612, h612, X612, e612, W612, st612⟩ := stC X603 hx hZ rfl Ar612 (j := (0 : Int32)) hin612 (g := (mkF m 215 #[.val (.int p1), .val (.int p2), .val (.int p3), .val (.int p4), .val (.int c0), .val (.int c1), .val (.int c2), .val (.int (p4 &&& (7 : Int32))), .val (.ref b603), .unset, .val (.int (32 : Int32))] [(.int c0), (.int (0 : Int32)), (.ref b603)])) rfl rfl (hb hby at_215)
              have fa612 := Arf.set (v := .int (nar .char c0)) Ar612 q612 S612 M612 H612 G612 (fits_nar_char c0) W612
              have f613 := Nat.le_trans f604 (Keep.of_wr W612).1
              have f614 := Nat.le_trans f605 (Keep.of_wr W612).1
              have f615 := f607.wr W612
              have f616 := f608.wr W612
              have f617 := f609.wr W612
              have f618 := f610.wr W612
              have f619 := f611.wr W612
              have N612 := Fr.snoc X612 N603 gn603
              refine EndsW.go st612 ?_
              show EndsW _ _ _ _ _ _ _ (T612.setTop (mkF m 216 #[.val (.int p1), .val (.int p2), .val (.int p3), .val (.int p4), .val (.int c0), .val (.int c1), .val (.int c2), .val (.int (p4 &&& (7 : Int32))), .val (.ref b603), .unset, .val (.int (32 : Int32))] []))
              refine EndsW.go (b := T612.setTop (mkF m 224 #[.val (.int p1), .val (.int p2), .val (.int p3), .val (.int p4), .val (.int c0), .val (.int c1), .val (.int c2), .val (.int (p4 &&& (7 : Int32))), .val (.ref b603), .unset, .val (.int (32 : Int32))] [(.int c1), (.int (16 : Int32)), (.ref b603)])) (fun t k => ?_) ?_
              · show Steps p.tables e below (T612.setTop (mkF m 216 #[.val (.int p1), .val (.int p2), .val (.int p3), .val (.int p4), .val (.int c0), .val (.int c1), .val (.int c2), .val (.int (p4 &&& (7 : Int32))), .val (.ref b603), .unset, .val (.int (32 : Int32))] [])) _
                refine XS.aload X612.here hx rfl (hb hby at_216) rfl rfl ?_
                refine XS.iload X612.here hx rfl (hb hby at_218) rfl ?_
                refine XS.iconst X612.here hx rfl (hb hby at_220) ?_
                show Steps p.tables e below (T612.setTop (mkF m 221 #[.val (.int p1), .val (.int p2), .val (.int p3), .val (.int p4), .val (.int c0), .val (.int c1), .val (.int c2), .val (.int (p4 &&& (7 : Int32))), .val (.ref b603), .unset, .val (.int (32 : Int32))] [(.int (2 : Int32)), (.int (32 : Int32)), (.ref b603)])) _
                refine XS.idiv X612.here hx rfl (hb hby at_221) rfl (by decide) ?_
                show Steps p.tables e below (T612.setTop (mkF m 222 #[.val (.int p1), .val (.int p2), .val (.int p3), .val (.int p4), .val (.int c0), .val (.int c1), .val (.int c2), .val (.int (p4 &&& (7 : Int32))), .val (.ref b603), .unset, .val (.int (32 : Int32))] [(.int ((32 : Int32) / (2 : Int32))), (.ref b603)])) _
                rw [(by decide : ((32 : Int32) / (2 : Int32)) = (16 : Int32))]
                show Steps p.tables e below (T612.setTop (mkF m 222 #[.val (.int p1), .val (.int p2), .val (.int p3), .val (.int p4), .val (.int c0), .val (.int c1), .val (.int c2), .val (.int (p4 &&& (7 : Int32))), .val (.ref b603), .unset, .val (.int (32 : Int32))] [(.int (16 : Int32)), (.ref b603)])) _
                refine XS.iload X612.here hx rfl (hb hby at_222) rfl ?_
                exact k
              obtain ⟨cl620, Ar620, q620, S620, M620, H620, G620⟩ := id fa612
              have hin620 : ¬ ((16 : Int32) < 0 ∨ cl620.slots.size ≤ ((16 : Int32)).toNatClampNeg) := inb_of S620 ⟨by decide, by decide⟩
              obtain ⟨T620, h620, X620, e620, W620, st620⟩ := stC X612 hx hZ e612 Ar620 (j := (16 : Int32)) hin620 (g := (mkF m 224 #[.val (.int p1), .val (.int p2), .val (.int p3), .val (.int p4), .val (.int c0), .val (.int c1), .val (.int c2), .val (.int (p4 &&& (7 : Int32))), .val (.ref b603), .unset, .val (.int (32 : Int32))] [(.int c1), (.int (16 : Int32)), (.ref b603)])) rfl rfl (hb hby at_224)
              have fa620 := Arf.set (v := .int (nar .char c1)) Ar620 q620 S620 M620 H620 G620 (fits_nar_char c1) W620
              have f621 := Nat.le_trans f613 (Keep.of_wr W620).1
              have f622 := Nat.le_trans f614 (Keep.of_wr W620).1
              have f623 := f615.wr W620
              have f624 := f616.wr W620
              have f625 := f617.wr W620
              have f626 := f618.wr W620
              have f627 := f619.wr W620
              have N620 := Fr.snoc X620 N612 gn603
              refine EndsW.go st620 ?_
              show EndsW _ _ _ _ _ _ _ (T620.setTop (mkF m 225 #[.val (.int p1), .val (.int p2), .val (.int p3), .val (.int p4), .val (.int c0), .val (.int c1), .val (.int c2), .val (.int (p4 &&& (7 : Int32))), .val (.ref b603), .unset, .val (.int (32 : Int32))] []))
              refine EndsW.go (b := T620.setTop (mkF m 233 #[.val (.int p1), .val (.int p2), .val (.int p3), .val (.int p4), .val (.int c0), .val (.int c1), .val (.int c2), .val (.int (p4 &&& (7 : Int32))), .val (.ref b603), .unset, .val (.int (32 : Int32))] [(.int c2), (.int (31 : Int32)), (.ref b603)])) (fun t k => ?_) ?_
              · show Steps p.tables e below (T620.setTop (mkF m 225 #[.val (.int p1), .val (.int p2), .val (.int p3), .val (.int p4), .val (.int c0), .val (.int c1), .val (.int c2), .val (.int (p4 &&& (7 : Int32))), .val (.ref b603), .unset, .val (.int (32 : Int32))] [])) _
                refine XS.aload X620.here hx rfl (hb hby at_225) rfl rfl ?_
                refine XS.iload X620.here hx rfl (hb hby at_227) rfl ?_
                show Steps p.tables e below (T620.setTop (mkF m 229 #[.val (.int p1), .val (.int p2), .val (.int p3), .val (.int p4), .val (.int c0), .val (.int c1), .val (.int c2), .val (.int (p4 &&& (7 : Int32))), .val (.ref b603), .unset, .val (.int (32 : Int32))] [(.int (32 : Int32)), (.ref b603)])) _
                refine XS.iconst X620.here hx rfl (hb hby at_229) ?_
                refine XS.isub X620.here hx rfl (hb hby at_230) rfl ?_
                show Steps p.tables e below (T620.setTop (mkF m 231 #[.val (.int p1), .val (.int p2), .val (.int p3), .val (.int p4), .val (.int c0), .val (.int c1), .val (.int c2), .val (.int (p4 &&& (7 : Int32))), .val (.ref b603), .unset, .val (.int (32 : Int32))] [(.int ((32 : Int32) - (1 : Int32))), (.ref b603)])) _
                rw [(by decide : ((32 : Int32) - (1 : Int32)) = (31 : Int32))]
                show Steps p.tables e below (T620.setTop (mkF m 231 #[.val (.int p1), .val (.int p2), .val (.int p3), .val (.int p4), .val (.int c0), .val (.int c1), .val (.int c2), .val (.int (p4 &&& (7 : Int32))), .val (.ref b603), .unset, .val (.int (32 : Int32))] [(.int (31 : Int32)), (.ref b603)])) _
                refine XS.iload X620.here hx rfl (hb hby at_231) rfl ?_
                exact k
              obtain ⟨cl628, Ar628, q628, S628, M628, H628, G628⟩ := id fa620
              have hin628 : ¬ ((31 : Int32) < 0 ∨ cl628.slots.size ≤ ((31 : Int32)).toNatClampNeg) := inb_of S628 ⟨by decide, by decide⟩
              obtain ⟨T628, h628, X628, e628, W628, st628⟩ := stC X620 hx hZ e620 Ar628 (j := (31 : Int32)) hin628 (g := (mkF m 233 #[.val (.int p1), .val (.int p2), .val (.int p3), .val (.int p4), .val (.int c0), .val (.int c1), .val (.int c2), .val (.int (p4 &&& (7 : Int32))), .val (.ref b603), .unset, .val (.int (32 : Int32))] [(.int c2), (.int (31 : Int32)), (.ref b603)])) rfl rfl (hb hby at_233)
              have fa628 := Arf.set (v := .int (nar .char c2)) Ar628 q628 S628 M628 H628 G628 (fits_nar_char c2) W628
              have f629 := Nat.le_trans f621 (Keep.of_wr W628).1
              have f630 := Nat.le_trans f622 (Keep.of_wr W628).1
              have f631 := f623.wr W628
              have f632 := f624.wr W628
              have f633 := f625.wr W628
              have f634 := f626.wr W628
              have f635 := f627.wr W628
              have N628 := Fr.snoc X628 N620 gn603
              refine EndsW.go st628 ?_
              show EndsW _ _ _ _ _ _ _ (T628.setTop (mkF m 234 #[.val (.int p1), .val (.int p2), .val (.int p3), .val (.int p4), .val (.int c0), .val (.int c1), .val (.int c2), .val (.int (p4 &&& (7 : Int32))), .val (.ref b603), .unset, .val (.int (32 : Int32))] []))
              refine EndsW.go (b := T628.setTop (mkF m 243 #[.val (.int p1), .val (.int p2), .val (.int p3), .val (.int p4), .val (.int c0), .val (.int c1), .val (.int c2), .val (.int (p4 &&& (7 : Int32))), .val (.ref b603), .unset, .val (.int (32 : Int32))] [(.int c0)])) (fun t k => ?_) ?_
              · show Steps p.tables e below (T628.setTop (mkF m 234 #[.val (.int p1), .val (.int p2), .val (.int p3), .val (.int p4), .val (.int c0), .val (.int c1), .val (.int c2), .val (.int (p4 &&& (7 : Int32))), .val (.ref b603), .unset, .val (.int (32 : Int32))] [])) _
                refine XS.iload X628.here hx rfl (hb hby at_234) rfl ?_
                show Steps p.tables e below (T628.setTop (mkF m 236 #[.val (.int p1), .val (.int p2), .val (.int p3), .val (.int p4), .val (.int c0), .val (.int c1), .val (.int c2), .val (.int (p4 &&& (7 : Int32))), .val (.ref b603), .unset, .val (.int (32 : Int32))] [(.int (32 : Int32))])) _
                refine XS.bipush X628.here hx rfl (hb hby at_236) ?_
                refine XS.icmpNo X628.here hx rfl (hb hby at_238) rfl (flt (by decide)).2.2.1 ?_
                show Steps p.tables e below (T628.setTop (mkF m 241 #[.val (.int p1), .val (.int p2), .val (.int p3), .val (.int p4), .val (.int c0), .val (.int c1), .val (.int c2), .val (.int (p4 &&& (7 : Int32))), .val (.ref b603), .unset, .val (.int (32 : Int32))] [])) _
                refine XS.iload X628.here hx rfl (hb hby at_241) rfl ?_
                exact k
              obtain ⟨_, _, ⟨T636, L636, kk636, nn636⟩, -, X636, ⟨Lc636, hQ636, l636, y636, z636⟩, st636⟩ := Jvm.LawKit.callS X628 hx (y := (⟨"com/example/lossfall/lossfall/model/CertificateClassIsValidNamePinLaw", "ok", "(C)Z"⟩ : MethodName)) hown (mvT hZ (own_w hw 2 rfl)) (mvT hZ (own_w hw 3 rfl)) (mvT hZ (own_w hw 4 rfl)) (mvT hZ (own_w hw 5 rfl)) (by decide) (backOf (W := 0) (rm1 l Z a0 hw [] c0 h628 n0 f629 hc0.1) hZ (own_w hw 5 rfl) (own_w hw 4 rfl) (by decide) (by decide)) (g := (mkF m 243 #[.val (.int p1), .val (.int p2), .val (.int p3), .val (.int p4), .val (.int c0), .val (.int c1), .val (.int c2), .val (.int (p4 &&& (7 : Int32))), .val (.ref b603), .unset, .val (.int (32 : Int32))] [(.int c0)])) rfl (by rw [hml]; rfl) (argsL := [(.int c0)]) (rest := []) (lenOf pd_18 rfl) rfl (by show 2 * 0 + _ ≤ _; exact Nat.le_of_eq rfl) (hb hby at_243) (fun _ _ => ⟨rfl, e628, (by decide : 1 + 0 ≤ _), (by decide : 33 + 0 ≤ _)⟩)
              dsimp only [Pt.U, Pt.locs, Pt.cells, Pt.slots] at X636 l636 y636 z636 st636 hQ636
              subst l636 y636 z636
              obtain ⟨rfl, Nq636, eq636⟩ := hQ636
              have N636 := Fr.app N628 Nq636
              refine EndsW.go st636 ?_
              show EndsW _ _ _ _ _ _ _ (T636.setTop (mkF m 246 #[.val (.int p1), .val (.int p2), .val (.int p3), .val (.int p4), .val (.int c0), .val (.int c1), .val (.int c2), .val (.int (p4 &&& (7 : Int32))), .val (.ref b603), .unset, .val (.int (32 : Int32))] [(.int (own_okc c0))]))
              by_cases hc246_637 : (own_okc c0) = (0 : Int32)
              · refine EndsW.go (b := T636.setTop (mkF m 269 #[.val (.int p1), .val (.int p2), .val (.int p3), .val (.int p4), .val (.int c0), .val (.int c1), .val (.int c2), .val (.int (p4 &&& (7 : Int32))), .val (.ref b603), .unset, .val (.int (32 : Int32))] [])) (fun t k => ?_) ?_
                · show Steps p.tables e below (T636.setTop (mkF m 246 #[.val (.int p1), .val (.int p2), .val (.int p3), .val (.int p4), .val (.int c0), .val (.int c1), .val (.int c2), .val (.int (p4 &&& (7 : Int32))), .val (.ref b603), .unset, .val (.int (32 : Int32))] [(.int (own_okc c0))])) _
                  refine XS.ifYes X636.here hx rfl (pc0 := 246) (pc' := 269) rfl (hb hby at_246) rfl ((if0 _ _).trans (teq hc246_637).1) (by decide) (by decide) ?_
                  show Steps p.tables e below (T636.setTop (mkF m 269 #[.val (.int p1), .val (.int p2), .val (.int p3), .val (.int p4), .val (.int c0), .val (.int c1), .val (.int c2), .val (.int (p4 &&& (7 : Int32))), .val (.ref b603), .unset, .val (.int (32 : Int32))] [])) _
                  exact k
                refine EndsW.go (b := T636.setTop (mkF m 272 #[.val (.int p1), .val (.int p2), .val (.int p3), .val (.int p4), .val (.int c0), .val (.int c1), .val (.int c2), .val (.int (p4 &&& (7 : Int32))), .val (.ref b603), .val (.int (0 : Int32)), .val (.int (32 : Int32))] [])) (fun t k => ?_) ?_
                · show Steps p.tables e below (T636.setTop (mkF m 269 #[.val (.int p1), .val (.int p2), .val (.int p3), .val (.int p4), .val (.int c0), .val (.int c1), .val (.int c2), .val (.int (p4 &&& (7 : Int32))), .val (.ref b603), .unset, .val (.int (32 : Int32))] [])) _
                  refine XS.iconst X636.here hx rfl (hb hby at_269) ?_
                  refine XS.istore X636.here hx rfl (hb hby at_270) rfl (l' := #[.val (.int p1), .val (.int p2), .val (.int p3), .val (.int p4), .val (.int c0), .val (.int c1), .val (.int c2), .val (.int (p4 &&& (7 : Int32))), .val (.ref b603), .val (.int (0 : Int32)), .val (.int (32 : Int32))]) rfl ?_
                  show Steps p.tables e below (T636.setTop (mkF m 272 #[.val (.int p1), .val (.int p2), .val (.int p3), .val (.int p4), .val (.int c0), .val (.int c1), .val (.int c2), .val (.int (p4 &&& (7 : Int32))), .val (.ref b603), .val (.int (0 : Int32)), .val (.int (32 : Int32))] [])) _
                  exact k
                have Gc638 : Arf Z h628 b603 kb603 .char (32 : Int32) (own_cv (own_chL (0 : Int32) (16 : Int32) (31 : Int32) c0 c1 c2)) := own_aL fa628 hc0 hc1 hc2
                obtain ⟨T639, h639, X639, e639, E639, A639, D639, -, st639⟩ := newO X636 hx hZ hown (own_w hw 6 rfl) (own_w hw 7 rfl) (own_w hw 8 rfl) eq636 (g := (mkF m 272 #[.val (.int p1), .val (.int p2), .val (.int p3), .val (.int p4), .val (.int c0), .val (.int c1), .val (.int c2), .val (.int (p4 &&& (7 : Int32))), .val (.ref b603), .val (.int (0 : Int32)), .val (.int (32 : Int32))] [])) rfl (hb hby at_272) (by decide) (by decide)
                obtain ⟨b639, g639⟩ : ∃ z, z = h628.size := ⟨_, rfl⟩
                rw [← g639] at A639 D639 st639
                have gn639 : n0 ≤ b639 := Nat.le_trans f629 (Nat.le_of_eq g639.symm)
                have ne639_b603 : b603 ≠ b639 := Nat.ne_of_lt (Nat.lt_of_lt_of_le Gc638.lt (Nat.le_of_eq g639.symm))
                have f640 := Nat.le_trans f629 E639.1
                have f641 := Nat.le_trans f630 E639.1
                have f642 := f631.ext E639
                have f643 := f632.ext E639
                have f644 := f633.ext E639
                have f645 := f634.ext E639
                have f646 := f635.ext E639
                have f647 := Gc638.ext E639
                have f648 : Fld Z h639 b639 "java/lang/String" "coder" "B" (.int (0 : Int32)) := D639 (Or.inr (own_w hw 32 rfl)) (ty := .byte) (by decide)
                have f649 : Fld Z h639 b639 "java/lang/String" "value" "[B" .null := D639 (Or.inr (own_w hw 34 rfl)) (ty := (.array .byte)) (by decide)
                refine EndsW.go st639 ?_
                show EndsW _ _ _ _ _ _ _ (T639.setTop (mkF m 275 #[.val (.int p1), .val (.int p2), .val (.int p3), .val (.int p4), .val (.int c0), .val (.int c1), .val (.int c2), .val (.int (p4 &&& (7 : Int32))), .val (.ref b603), .val (.int (0 : Int32)), .val (.int (32 : Int32))] [(.ref b639)]))
                refine EndsW.go (b := T639.setTop (mkF m 278 #[.val (.int p1), .val (.int p2), .val (.int p3), .val (.int p4), .val (.int c0), .val (.int c1), .val (.int c2), .val (.int (p4 &&& (7 : Int32))), .val (.ref b603), .val (.int (0 : Int32)), .val (.int (32 : Int32))] [(.ref b603), (.ref b639), (.ref b639)])) (fun t k => ?_) ?_
                · show Steps p.tables e below (T639.setTop (mkF m 275 #[.val (.int p1), .val (.int p2), .val (.int p3), .val (.int p4), .val (.int c0), .val (.int c1), .val (.int c2), .val (.int (p4 &&& (7 : Int32))), .val (.ref b603), .val (.int (0 : Int32)), .val (.int (32 : Int32))] [(.ref b639)])) _
                  refine XS.dup X639.here hx rfl (hb hby at_275) rfl rfl ?_
                  refine XS.aload X639.here hx rfl (hb hby at_276) rfl rfl ?_
                  exact k
                obtain ⟨_, _, ⟨T650, L650, kk650, nn650⟩, -, X650, ⟨Lc650, hQ650, l650, y650, z650⟩, st650⟩ := X639.specialBack hx (y := (⟨"java/lang/String", "<init>", "([C)V"⟩ : MethodName)) rfl hown (mvT hZ (own_w hw 9 rfl)) (mvT hZ (own_w hw 10 rfl)) (mvT hZ (own_w hw 11 rfl)) (by decide) (backOf (W := 1) (rm2 l Z a0 hw [] b639 b603 cs fv kb603 (32 : Int32) (own_chL (0 : Int32) (16 : Int32) (31 : Int32) c0 c1 c2) h639 n0 f640 ⟨f642, hcs, f643, hfv, f644, f645, f646⟩ A639 f649 f648 gn639 (Ne.symm ne639_b603) f647 (by decide) (by decide) (by decide) (own_chLR _ _ _ c0 c1 c2 hc0 hc1 hc2)) hZ (own_w hw 11 rfl) (own_w hw 8 rfl) (by decide) (by decide)) (g := (mkF m 278 #[.val (.int p1), .val (.int p2), .val (.int p3), .val (.int p4), .val (.int c0), .val (.int c1), .val (.int c2), .val (.int (p4 &&& (7 : Int32))), .val (.ref b603), .val (.int (0 : Int32)), .val (.int (32 : Int32))] [(.ref b603), (.ref b639), (.ref b639)])) rfl (by rw [hml]; rfl) (Steps.refl _) (a := b639) (argsL := [(.ref b603)]) (rest := [(.ref b639)]) (lenOf pd_16 rfl) rfl (by show 2 * 0 + _ ≤ _; exact Nat.le_of_eq rfl) (hb hby at_278) (fun _ _ => ⟨rfl, e639, (by decide : 2 + 2 ≤ _), (by decide : 37 + 99 ≤ _)⟩)
                dsimp only [Pt.U, Pt.locs, Pt.cells, Pt.slots] at X650 l650 y650 z650 st650 hQ650
                subst l650 y650 z650
                obtain ⟨rfl, Nq650, K650, Ys650⟩ := hQ650
                have N650 := Fr.app N636 Nq650
                have f651 := Nat.le_trans f640 K650.1
                have f652 := Nat.le_trans f641 K650.1
                have f653 := own_sta_keep f642 K650 A639
                have f654 := own_sta_keep f643 K650 A639
                have f655 := own_sta_keep f644 K650 A639
                have f656 := own_sta_keep f645 K650 A639
                have f657 := own_sta_keep f646 K650 A639
                have f658 := f647.keep K650 (ninS ne639_b603 nin0)
                have f659 := A639.keep K650
                refine EndsW.go (fun t k => st650.trans k) ?_
                show EndsW _ _ _ _ _ _ _ (T650.setTop (mkF m 281 #[.val (.int p1), .val (.int p2), .val (.int p3), .val (.int p4), .val (.int c0), .val (.int c1), .val (.int c2), .val (.int (p4 &&& (7 : Int32))), .val (.ref b603), .val (.int (0 : Int32)), .val (.int (32 : Int32))] [(.ref b639)]))
                obtain ⟨_, _, ⟨T660, L660, kk660, nn660⟩, -, X660, ⟨Lc660, hQ660, l660, y660, z660⟩, st660⟩ := Jvm.LawKit.callS X650 hx (y := (⟨"com/example/lossfall/lossfall/model/CertificateClass", "isValidName", "(Ljava/lang/String;)Z"⟩ : MethodName)) hown (mvT hZ (own_w hw 35 rfl)) (mvT hZ (own_w hw 36 rfl)) (mvT hZ (own_w hw 37 rfl)) (mvT hZ (own_w hw 38 rfl)) (by decide) (backOf (W := 0) (rm8 l Z a0 hw [] b639 cs fv (32 : Int32) (own_chL (0 : Int32) (16 : Int32) (31 : Int32) c0 c1 c2) T650.heap n0 f651 ⟨f653, hcs, f654, hfv, f655, f656, f657⟩ Ys650 (by decide) (by decide) (own_chLR _ _ _ c0 c1 c2 hc0 hc1 hc2) Ys650.1) hZ (own_w hw 38 rfl) (own_w hw 37 rfl) (by decide) (by decide)) (g := (mkF m 281 #[.val (.int p1), .val (.int p2), .val (.int p3), .val (.int p4), .val (.int c0), .val (.int c1), .val (.int c2), .val (.int (p4 &&& (7 : Int32))), .val (.ref b603), .val (.int (0 : Int32)), .val (.int (32 : Int32))] [(.ref b639)])) rfl (by rw [hml]; rfl) (argsL := [(.ref b639)]) (rest := []) (lenOf pd_17 rfl) rfl (by show 2 * 0 + _ ≤ _; exact Nat.le_of_eq rfl) (hb hby at_281) (fun _ _ => ⟨rfl, rfl, (by decide : 4 + 0 ≤ _), (by decide : 136 + 0 ≤ _)⟩)
                dsimp only [Pt.U, Pt.locs, Pt.cells, Pt.slots] at X660 l660 y660 z660 st660 hQ660
                subst l660 y660 z660
                obtain ⟨rfl, Nq660, eq660⟩ := hQ660
                have N660 := Fr.app N650 Nq660
                refine EndsW.go st660 ?_
                show EndsW _ _ _ _ _ _ _ (T660.setTop (mkF m 284 #[.val (.int p1), .val (.int p2), .val (.int p3), .val (.int p4), .val (.int c0), .val (.int c1), .val (.int c2), .val (.int (p4 &&& (7 : Int32))), .val (.ref b603), .val (.int (0 : Int32)), .val (.int (32 : Int32))] [(.int (own_val (32 : Int32) (own_chL (0 : Int32) (16 : Int32) (31 : Int32) c0 c1 c2)))]))
                refine EndsW.go (b := T660.setTop (mkF m 294 #[.val (.int p1), .val (.int p2), .val (.int p3), .val (.int p4), .val (.int c0), .val (.int c1), .val (.int c2), .val (.int (p4 &&& (7 : Int32))), .val (.ref b603), .val (.int (0 : Int32)), .val (.int (32 : Int32))] [(.int (1 : Int32))])) (fun t k => ?_) ?_
                · show Steps p.tables e below (T660.setTop (mkF m 284 #[.val (.int p1), .val (.int p2), .val (.int p3), .val (.int p4), .val (.int c0), .val (.int c1), .val (.int c2), .val (.int (p4 &&& (7 : Int32))), .val (.ref b603), .val (.int (0 : Int32)), .val (.int (32 : Int32))] [(.int (own_val (32 : Int32) (own_chL (0 : Int32) (16 : Int32) (31 : Int32) c0 c1 c2)))])) _
                  refine XS.iload X660.here hx rfl (hb hby at_284) rfl ?_
                  refine XS.icmpNo X660.here hx rfl (hb hby at_286) rfl (teq (own_vZero _ _ (by decide) (by decide) 0 (by decide) c0 rfl hc246_637)).2 ?_
                  show Steps p.tables e below (T660.setTop (mkF m 289 #[.val (.int p1), .val (.int p2), .val (.int p3), .val (.int p4), .val (.int c0), .val (.int c1), .val (.int c2), .val (.int (p4 &&& (7 : Int32))), .val (.ref b603), .val (.int (0 : Int32)), .val (.int (32 : Int32))] [])) _
                  refine XS.iconst X660.here hx rfl (hb hby at_289) ?_
                  show Steps p.tables e below (T660.setTop (mkF m 290 #[.val (.int p1), .val (.int p2), .val (.int p3), .val (.int p4), .val (.int c0), .val (.int c1), .val (.int c2), .val (.int (p4 &&& (7 : Int32))), .val (.ref b603), .val (.int (0 : Int32)), .val (.int (32 : Int32))] [(.int (1 : Int32))])) _
                  refine XS.goto X660.here hx rfl (pc0 := 290) (pc' := 294) rfl (hb hby at_290) (by decide) (by decide) ?_
                  exact k
                refine EndsW.retN X660 hS0 (by rw [eq660]; exact f652) hx Bd.notSynchronized (t := .boolean) Bd.returns (by simp) (hb hby at_294) (by decide) (by decide) ?_
                show Q0 Z p1 p2 p3 p4 cs fv h0 n0 (some (.int (nar .boolean (1 : Int32)))) T660.heap _
                rw [eq660]
                exact ⟨rfl, N660⟩
              · refine EndsW.go (b := T636.setTop (mkF m 249 #[.val (.int p1), .val (.int p2), .val (.int p3), .val (.int p4), .val (.int c0), .val (.int c1), .val (.int c2), .val (.int (p4 &&& (7 : Int32))), .val (.ref b603), .unset, .val (.int (32 : Int32))] [])) (fun t k => ?_) ?_
                · show Steps p.tables e below (T636.setTop (mkF m 246 #[.val (.int p1), .val (.int p2), .val (.int p3), .val (.int p4), .val (.int c0), .val (.int c1), .val (.int c2), .val (.int (p4 &&& (7 : Int32))), .val (.ref b603), .unset, .val (.int (32 : Int32))] [(.int (own_okc c0))])) _
                  refine XS.ifNo X636.here hx rfl (hb hby at_246) rfl ((if0 _ _).trans (feq hc246_637).1) ?_
                  show Steps p.tables e below (T636.setTop (mkF m 249 #[.val (.int p1), .val (.int p2), .val (.int p3), .val (.int p4), .val (.int c0), .val (.int c1), .val (.int c2), .val (.int (p4 &&& (7 : Int32))), .val (.ref b603), .unset, .val (.int (32 : Int32))] [])) _
                  exact k
                refine EndsW.go (b := T636.setTop (mkF m 251 #[.val (.int p1), .val (.int p2), .val (.int p3), .val (.int p4), .val (.int c0), .val (.int c1), .val (.int c2), .val (.int (p4 &&& (7 : Int32))), .val (.ref b603), .unset, .val (.int (32 : Int32))] [(.int c1)])) (fun t k => ?_) ?_
                · show Steps p.tables e below (T636.setTop (mkF m 249 #[.val (.int p1), .val (.int p2), .val (.int p3), .val (.int p4), .val (.int c0), .val (.int c1), .val (.int c2), .val (.int (p4 &&& (7 : Int32))), .val (.ref b603), .unset, .val (.int (32 : Int32))] [])) _
                  refine XS.iload X636.here hx rfl (hb hby at_249) rfl ?_
                  exact k
                obtain ⟨_, _, ⟨T661, L661, kk661, nn661⟩, -, X661, ⟨Lc661, hQ661, l661, y661, z661⟩, st661⟩ := Jvm.LawKit.callS X636 hx (y := (⟨"com/example/lossfall/lossfall/model/CertificateClassIsValidNamePinLaw", "ok", "(C)Z"⟩ : MethodName)) hown (mvT hZ (own_w hw 2 rfl)) (mvT hZ (own_w hw 3 rfl)) (mvT hZ (own_w hw 4 rfl)) (mvT hZ (own_w hw 5 rfl)) (by decide) (backOf (W := 0) (rm1 l Z a0 hw [] c1 h628 n0 f629 hc1.1) hZ (own_w hw 5 rfl) (own_w hw 4 rfl) (by decide) (by decide)) (g := (mkF m 251 #[.val (.int p1), .val (.int p2), .val (.int p3), .val (.int p4), .val (.int c0), .val (.int c1), .val (.int c2), .val (.int (p4 &&& (7 : Int32))), .val (.ref b603), .unset, .val (.int (32 : Int32))] [(.int c1)])) rfl (by rw [hml]; rfl) (argsL := [(.int c1)]) (rest := []) (lenOf pd_18 rfl) rfl (by show 2 * 0 + _ ≤ _; exact Nat.le_of_eq rfl) (hb hby at_251) (fun _ _ => ⟨rfl, eq636, (by decide : 1 + 0 ≤ _), (by decide : 33 + 0 ≤ _)⟩)
                dsimp only [Pt.U, Pt.locs, Pt.cells, Pt.slots] at X661 l661 y661 z661 st661 hQ661
                subst l661 y661 z661
                obtain ⟨rfl, Nq661, eq661⟩ := hQ661
                have N661 := Fr.app N636 Nq661
                refine EndsW.go st661 ?_
                show EndsW _ _ _ _ _ _ _ (T661.setTop (mkF m 254 #[.val (.int p1), .val (.int p2), .val (.int p3), .val (.int p4), .val (.int c0), .val (.int c1), .val (.int c2), .val (.int (p4 &&& (7 : Int32))), .val (.ref b603), .unset, .val (.int (32 : Int32))] [(.int (own_okc c1))]))
                by_cases hc254_662 : (own_okc c1) = (0 : Int32)
                · refine EndsW.go (b := T661.setTop (mkF m 269 #[.val (.int p1), .val (.int p2), .val (.int p3), .val (.int p4), .val (.int c0), .val (.int c1), .val (.int c2), .val (.int (p4 &&& (7 : Int32))), .val (.ref b603), .unset, .val (.int (32 : Int32))] [])) (fun t k => ?_) ?_
                  · show Steps p.tables e below (T661.setTop (mkF m 254 #[.val (.int p1), .val (.int p2), .val (.int p3), .val (.int p4), .val (.int c0), .val (.int c1), .val (.int c2), .val (.int (p4 &&& (7 : Int32))), .val (.ref b603), .unset, .val (.int (32 : Int32))] [(.int (own_okc c1))])) _
                    refine XS.ifYes X661.here hx rfl (pc0 := 254) (pc' := 269) rfl (hb hby at_254) rfl ((if0 _ _).trans (teq hc254_662).1) (by decide) (by decide) ?_
                    show Steps p.tables e below (T661.setTop (mkF m 269 #[.val (.int p1), .val (.int p2), .val (.int p3), .val (.int p4), .val (.int c0), .val (.int c1), .val (.int c2), .val (.int (p4 &&& (7 : Int32))), .val (.ref b603), .unset, .val (.int (32 : Int32))] [])) _
                    exact k
                  refine EndsW.go (b := T661.setTop (mkF m 272 #[.val (.int p1), .val (.int p2), .val (.int p3), .val (.int p4), .val (.int c0), .val (.int c1), .val (.int c2), .val (.int (p4 &&& (7 : Int32))), .val (.ref b603), .val (.int (0 : Int32)), .val (.int (32 : Int32))] [])) (fun t k => ?_) ?_
                  · show Steps p.tables e below (T661.setTop (mkF m 269 #[.val (.int p1), .val (.int p2), .val (.int p3), .val (.int p4), .val (.int c0), .val (.int c1), .val (.int c2), .val (.int (p4 &&& (7 : Int32))), .val (.ref b603), .unset, .val (.int (32 : Int32))] [])) _
                    refine XS.iconst X661.here hx rfl (hb hby at_269) ?_
                    refine XS.istore X661.here hx rfl (hb hby at_270) rfl (l' := #[.val (.int p1), .val (.int p2), .val (.int p3), .val (.int p4), .val (.int c0), .val (.int c1), .val (.int c2), .val (.int (p4 &&& (7 : Int32))), .val (.ref b603), .val (.int (0 : Int32)), .val (.int (32 : Int32))]) rfl ?_
                    show Steps p.tables e below (T661.setTop (mkF m 272 #[.val (.int p1), .val (.int p2), .val (.int p3), .val (.int p4), .val (.int c0), .val (.int c1), .val (.int c2), .val (.int (p4 &&& (7 : Int32))), .val (.ref b603), .val (.int (0 : Int32)), .val (.int (32 : Int32))] [])) _
                    exact k
                  have Gc663 : Arf Z h628 b603 kb603 .char (32 : Int32) (own_cv (own_chL (0 : Int32) (16 : Int32) (31 : Int32) c0 c1 c2)) := own_aL fa628 hc0 hc1 hc2
                  obtain ⟨T664, h664, X664, e664, E664, A664, D664, -, st664⟩ := newO X661 hx hZ hown (own_w hw 6 rfl) (own_w hw 7 rfl) (own_w hw 8 rfl) eq661 (g := (mkF m 272 #[.val (.int p1), .val (.int p2), .val (.int p3), .val (.int p4), .val (.int c0), .val (.int c1), .val (.int c2), .val (.int (p4 &&& (7 : Int32))), .val (.ref b603), .val (.int (0 : Int32)), .val (.int (32 : Int32))] [])) rfl (hb hby at_272) (by decide) (by decide)
                  obtain ⟨b664, g664⟩ : ∃ z, z = h628.size := ⟨_, rfl⟩
                  rw [← g664] at A664 D664 st664
                  have gn664 : n0 ≤ b664 := Nat.le_trans f629 (Nat.le_of_eq g664.symm)
                  have ne664_b603 : b603 ≠ b664 := Nat.ne_of_lt (Nat.lt_of_lt_of_le Gc663.lt (Nat.le_of_eq g664.symm))
                  have f665 := Nat.le_trans f629 E664.1
                  have f666 := Nat.le_trans f630 E664.1
                  have f667 := f631.ext E664
                  have f668 := f632.ext E664
                  have f669 := f633.ext E664
                  have f670 := f634.ext E664
                  have f671 := f635.ext E664
                  have f672 := Gc663.ext E664
                  have f673 : Fld Z h664 b664 "java/lang/String" "coder" "B" (.int (0 : Int32)) := D664 (Or.inr (own_w hw 32 rfl)) (ty := .byte) (by decide)
                  have f674 : Fld Z h664 b664 "java/lang/String" "value" "[B" .null := D664 (Or.inr (own_w hw 34 rfl)) (ty := (.array .byte)) (by decide)
                  refine EndsW.go st664 ?_
                  show EndsW _ _ _ _ _ _ _ (T664.setTop (mkF m 275 #[.val (.int p1), .val (.int p2), .val (.int p3), .val (.int p4), .val (.int c0), .val (.int c1), .val (.int c2), .val (.int (p4 &&& (7 : Int32))), .val (.ref b603), .val (.int (0 : Int32)), .val (.int (32 : Int32))] [(.ref b664)]))
                  refine EndsW.go (b := T664.setTop (mkF m 278 #[.val (.int p1), .val (.int p2), .val (.int p3), .val (.int p4), .val (.int c0), .val (.int c1), .val (.int c2), .val (.int (p4 &&& (7 : Int32))), .val (.ref b603), .val (.int (0 : Int32)), .val (.int (32 : Int32))] [(.ref b603), (.ref b664), (.ref b664)])) (fun t k => ?_) ?_
                  · show Steps p.tables e below (T664.setTop (mkF m 275 #[.val (.int p1), .val (.int p2), .val (.int p3), .val (.int p4), .val (.int c0), .val (.int c1), .val (.int c2), .val (.int (p4 &&& (7 : Int32))), .val (.ref b603), .val (.int (0 : Int32)), .val (.int (32 : Int32))] [(.ref b664)])) _
                    refine XS.dup X664.here hx rfl (hb hby at_275) rfl rfl ?_
                    refine XS.aload X664.here hx rfl (hb hby at_276) rfl rfl ?_
                    exact k
                  obtain ⟨_, _, ⟨T675, L675, kk675, nn675⟩, -, X675, ⟨Lc675, hQ675, l675, y675, z675⟩, st675⟩ := X664.specialBack hx (y := (⟨"java/lang/String", "<init>", "([C)V"⟩ : MethodName)) rfl hown (mvT hZ (own_w hw 9 rfl)) (mvT hZ (own_w hw 10 rfl)) (mvT hZ (own_w hw 11 rfl)) (by decide) (backOf (W := 1) (rm2 l Z a0 hw [] b664 b603 cs fv kb603 (32 : Int32) (own_chL (0 : Int32) (16 : Int32) (31 : Int32) c0 c1 c2) h664 n0 f665 ⟨f667, hcs, f668, hfv, f669, f670, f671⟩ A664 f674 f673 gn664 (Ne.symm ne664_b603) f672 (by decide) (by decide) (by decide) (own_chLR _ _ _ c0 c1 c2 hc0 hc1 hc2)) hZ (own_w hw 11 rfl) (own_w hw 8 rfl) (by decide) (by decide)) (g := (mkF m 278 #[.val (.int p1), .val (.int p2), .val (.int p3), .val (.int p4), .val (.int c0), .val (.int c1), .val (.int c2), .val (.int (p4 &&& (7 : Int32))), .val (.ref b603), .val (.int (0 : Int32)), .val (.int (32 : Int32))] [(.ref b603), (.ref b664), (.ref b664)])) rfl (by rw [hml]; rfl) (Steps.refl _) (a := b664) (argsL := [(.ref b603)]) (rest := [(.ref b664)]) (lenOf pd_16 rfl) rfl (by show 2 * 0 + _ ≤ _; exact Nat.le_of_eq rfl) (hb hby at_278) (fun _ _ => ⟨rfl, e664, (by decide : 2 + 2 ≤ _), (by decide : 37 + 99 ≤ _)⟩)
                  dsimp only [Pt.U, Pt.locs, Pt.cells, Pt.slots] at X675 l675 y675 z675 st675 hQ675
                  subst l675 y675 z675
                  obtain ⟨rfl, Nq675, K675, Ys675⟩ := hQ675
                  have N675 := Fr.app N661 Nq675
                  have f676 := Nat.le_trans f665 K675.1
                  have f677 := Nat.le_trans f666 K675.1
                  have f678 := own_sta_keep f667 K675 A664
                  have f679 := own_sta_keep f668 K675 A664
                  have f680 := own_sta_keep f669 K675 A664
                  have f681 := own_sta_keep f670 K675 A664
                  have f682 := own_sta_keep f671 K675 A664
                  have f683 := f672.keep K675 (ninS ne664_b603 nin0)
                  have f684 := A664.keep K675
                  refine EndsW.go (fun t k => st675.trans k) ?_
                  show EndsW _ _ _ _ _ _ _ (T675.setTop (mkF m 281 #[.val (.int p1), .val (.int p2), .val (.int p3), .val (.int p4), .val (.int c0), .val (.int c1), .val (.int c2), .val (.int (p4 &&& (7 : Int32))), .val (.ref b603), .val (.int (0 : Int32)), .val (.int (32 : Int32))] [(.ref b664)]))
                  obtain ⟨_, _, ⟨T685, L685, kk685, nn685⟩, -, X685, ⟨Lc685, hQ685, l685, y685, z685⟩, st685⟩ := Jvm.LawKit.callS X675 hx (y := (⟨"com/example/lossfall/lossfall/model/CertificateClass", "isValidName", "(Ljava/lang/String;)Z"⟩ : MethodName)) hown (mvT hZ (own_w hw 35 rfl)) (mvT hZ (own_w hw 36 rfl)) (mvT hZ (own_w hw 37 rfl)) (mvT hZ (own_w hw 38 rfl)) (by decide) (backOf (W := 0) (rm8 l Z a0 hw [] b664 cs fv (32 : Int32) (own_chL (0 : Int32) (16 : Int32) (31 : Int32) c0 c1 c2) T675.heap n0 f676 ⟨f678, hcs, f679, hfv, f680, f681, f682⟩ Ys675 (by decide) (by decide) (own_chLR _ _ _ c0 c1 c2 hc0 hc1 hc2) Ys675.1) hZ (own_w hw 38 rfl) (own_w hw 37 rfl) (by decide) (by decide)) (g := (mkF m 281 #[.val (.int p1), .val (.int p2), .val (.int p3), .val (.int p4), .val (.int c0), .val (.int c1), .val (.int c2), .val (.int (p4 &&& (7 : Int32))), .val (.ref b603), .val (.int (0 : Int32)), .val (.int (32 : Int32))] [(.ref b664)])) rfl (by rw [hml]; rfl) (argsL := [(.ref b664)]) (rest := []) (lenOf pd_17 rfl) rfl (by show 2 * 0 + _ ≤ _; exact Nat.le_of_eq rfl) (hb hby at_281) (fun _ _ => ⟨rfl, rfl, (by decide : 4 + 0 ≤ _), (by decide : 136 + 0 ≤ _)⟩)
                  dsimp only [Pt.U, Pt.locs, Pt.cells, Pt.slots] at X685 l685 y685 z685 st685 hQ685
                  subst l685 y685 z685
                  obtain ⟨rfl, Nq685, eq685⟩ := hQ685
                  have N685 := Fr.app N675 Nq685
                  refine EndsW.go st685 ?_
                  show EndsW _ _ _ _ _ _ _ (T685.setTop (mkF m 284 #[.val (.int p1), .val (.int p2), .val (.int p3), .val (.int p4), .val (.int c0), .val (.int c1), .val (.int c2), .val (.int (p4 &&& (7 : Int32))), .val (.ref b603), .val (.int (0 : Int32)), .val (.int (32 : Int32))] [(.int (own_val (32 : Int32) (own_chL (0 : Int32) (16 : Int32) (31 : Int32) c0 c1 c2)))]))
                  refine EndsW.go (b := T685.setTop (mkF m 294 #[.val (.int p1), .val (.int p2), .val (.int p3), .val (.int p4), .val (.int c0), .val (.int c1), .val (.int c2), .val (.int (p4 &&& (7 : Int32))), .val (.ref b603), .val (.int (0 : Int32)), .val (.int (32 : Int32))] [(.int (1 : Int32))])) (fun t k => ?_) ?_
                  · show Steps p.tables e below (T685.setTop (mkF m 284 #[.val (.int p1), .val (.int p2), .val (.int p3), .val (.int p4), .val (.int c0), .val (.int c1), .val (.int c2), .val (.int (p4 &&& (7 : Int32))), .val (.ref b603), .val (.int (0 : Int32)), .val (.int (32 : Int32))] [(.int (own_val (32 : Int32) (own_chL (0 : Int32) (16 : Int32) (31 : Int32) c0 c1 c2)))])) _
                    refine XS.iload X685.here hx rfl (hb hby at_284) rfl ?_
                    refine XS.icmpNo X685.here hx rfl (hb hby at_286) rfl (teq (own_vZero _ _ (by decide) (by decide) 16 (by decide) c1 rfl hc254_662)).2 ?_
                    show Steps p.tables e below (T685.setTop (mkF m 289 #[.val (.int p1), .val (.int p2), .val (.int p3), .val (.int p4), .val (.int c0), .val (.int c1), .val (.int c2), .val (.int (p4 &&& (7 : Int32))), .val (.ref b603), .val (.int (0 : Int32)), .val (.int (32 : Int32))] [])) _
                    refine XS.iconst X685.here hx rfl (hb hby at_289) ?_
                    show Steps p.tables e below (T685.setTop (mkF m 290 #[.val (.int p1), .val (.int p2), .val (.int p3), .val (.int p4), .val (.int c0), .val (.int c1), .val (.int c2), .val (.int (p4 &&& (7 : Int32))), .val (.ref b603), .val (.int (0 : Int32)), .val (.int (32 : Int32))] [(.int (1 : Int32))])) _
                    refine XS.goto X685.here hx rfl (pc0 := 290) (pc' := 294) rfl (hb hby at_290) (by decide) (by decide) ?_
                    exact k
                  refine EndsW.retN X685 hS0 (by rw [eq685]; exact f677) hx Bd.notSynchronized (t := .boolean) Bd.returns (by simp) (hb hby at_294) (by decide) (by decide) ?_
                  show Q0 Z p1 p2 p3 p4 cs fv h0 n0 (some (.int (nar .boolean (1 : Int32)))) T685.heap _
                  rw [eq685]
                  exact ⟨rfl, N685⟩
                · refine EndsW.go (b := T661.setTop (mkF m 257 #[.val (.int p1), .val (.int p2), .val (.int p3), .val (.int p4), .val (.int c0), .val (.int c1), .val (.int c2), .val (.int (p4 &&& (7 : Int32))), .val (.ref b603), .unset, .val (.int (32 : Int32))] [])) (fun t k => ?_) ?_
                  · show Steps p.tables e below (T661.setTop (mkF m 254 #[.val (.int p1), .val (.int p2), .val (.int p3), .val (.int p4), .val (.int c0), .val (.int c1), .val (.int c2), .val (.int (p4 &&& (7 : Int32))), .val (.ref b603), .unset, .val (.int (32 : Int32))] [(.int (own_okc c1))])) _
                    refine XS.ifNo X661.here hx rfl (hb hby at_254) rfl ((if0 _ _).trans (feq hc254_662).1) ?_
                    show Steps p.tables e below (T661.setTop (mkF m 257 #[.val (.int p1), .val (.int p2), .val (.int p3), .val (.int p4), .val (.int c0), .val (.int c1), .val (.int c2), .val (.int (p4 &&& (7 : Int32))), .val (.ref b603), .unset, .val (.int (32 : Int32))] [])) _
                    exact k
                  refine EndsW.go (b := T661.setTop (mkF m 259 #[.val (.int p1), .val (.int p2), .val (.int p3), .val (.int p4), .val (.int c0), .val (.int c1), .val (.int c2), .val (.int (p4 &&& (7 : Int32))), .val (.ref b603), .unset, .val (.int (32 : Int32))] [(.int c2)])) (fun t k => ?_) ?_
                  · show Steps p.tables e below (T661.setTop (mkF m 257 #[.val (.int p1), .val (.int p2), .val (.int p3), .val (.int p4), .val (.int c0), .val (.int c1), .val (.int c2), .val (.int (p4 &&& (7 : Int32))), .val (.ref b603), .unset, .val (.int (32 : Int32))] [])) _
                    refine XS.iload X661.here hx rfl (hb hby at_257) rfl ?_
                    exact k
                  obtain ⟨_, _, ⟨T686, L686, kk686, nn686⟩, -, X686, ⟨Lc686, hQ686, l686, y686, z686⟩, st686⟩ := Jvm.LawKit.callS X661 hx (y := (⟨"com/example/lossfall/lossfall/model/CertificateClassIsValidNamePinLaw", "ok", "(C)Z"⟩ : MethodName)) hown (mvT hZ (own_w hw 2 rfl)) (mvT hZ (own_w hw 3 rfl)) (mvT hZ (own_w hw 4 rfl)) (mvT hZ (own_w hw 5 rfl)) (by decide) (backOf (W := 0) (rm1 l Z a0 hw [] c2 h628 n0 f629 hc2.1) hZ (own_w hw 5 rfl) (own_w hw 4 rfl) (by decide) (by decide)) (g := (mkF m 259 #[.val (.int p1), .val (.int p2), .val (.int p3), .val (.int p4), .val (.int c0), .val (.int c1), .val (.int c2), .val (.int (p4 &&& (7 : Int32))), .val (.ref b603), .unset, .val (.int (32 : Int32))] [(.int c2)])) rfl (by rw [hml]; rfl) (argsL := [(.int c2)]) (rest := []) (lenOf pd_18 rfl) rfl (by show 2 * 0 + _ ≤ _; exact Nat.le_of_eq rfl) (hb hby at_259) (fun _ _ => ⟨rfl, eq661, (by decide : 1 + 0 ≤ _), (by decide : 33 + 0 ≤ _)⟩)
                  dsimp only [Pt.U, Pt.locs, Pt.cells, Pt.slots] at X686 l686 y686 z686 st686 hQ686
                  subst l686 y686 z686
                  obtain ⟨rfl, Nq686, eq686⟩ := hQ686
                  have N686 := Fr.app N661 Nq686
                  refine EndsW.go st686 ?_
                  show EndsW _ _ _ _ _ _ _ (T686.setTop (mkF m 262 #[.val (.int p1), .val (.int p2), .val (.int p3), .val (.int p4), .val (.int c0), .val (.int c1), .val (.int c2), .val (.int (p4 &&& (7 : Int32))), .val (.ref b603), .unset, .val (.int (32 : Int32))] [(.int (own_okc c2))]))
                  by_cases hc262_687 : (own_okc c2) = (0 : Int32)
                  · refine EndsW.go (b := T686.setTop (mkF m 269 #[.val (.int p1), .val (.int p2), .val (.int p3), .val (.int p4), .val (.int c0), .val (.int c1), .val (.int c2), .val (.int (p4 &&& (7 : Int32))), .val (.ref b603), .unset, .val (.int (32 : Int32))] [])) (fun t k => ?_) ?_
                    · show Steps p.tables e below (T686.setTop (mkF m 262 #[.val (.int p1), .val (.int p2), .val (.int p3), .val (.int p4), .val (.int c0), .val (.int c1), .val (.int c2), .val (.int (p4 &&& (7 : Int32))), .val (.ref b603), .unset, .val (.int (32 : Int32))] [(.int (own_okc c2))])) _
                      refine XS.ifYes X686.here hx rfl (pc0 := 262) (pc' := 269) rfl (hb hby at_262) rfl ((if0 _ _).trans (teq hc262_687).1) (by decide) (by decide) ?_
                      show Steps p.tables e below (T686.setTop (mkF m 269 #[.val (.int p1), .val (.int p2), .val (.int p3), .val (.int p4), .val (.int c0), .val (.int c1), .val (.int c2), .val (.int (p4 &&& (7 : Int32))), .val (.ref b603), .unset, .val (.int (32 : Int32))] [])) _
                      exact k
                    refine EndsW.go (b := T686.setTop (mkF m 272 #[.val (.int p1), .val (.int p2), .val (.int p3), .val (.int p4), .val (.int c0), .val (.int c1), .val (.int c2), .val (.int (p4 &&& (7 : Int32))), .val (.ref b603), .val (.int (0 : Int32)), .val (.int (32 : Int32))] [])) (fun t k => ?_) ?_
                    · show Steps p.tables e below (T686.setTop (mkF m 269 #[.val (.int p1), .val (.int p2), .val (.int p3), .val (.int p4), .val (.int c0), .val (.int c1), .val (.int c2), .val (.int (p4 &&& (7 : Int32))), .val (.ref b603), .unset, .val (.int (32 : Int32))] [])) _
                      refine XS.iconst X686.here hx rfl (hb hby at_269) ?_
                      refine XS.istore X686.here hx rfl (hb hby at_270) rfl (l' := #[.val (.int p1), .val (.int p2), .val (.int p3), .val (.int p4), .val (.int c0), .val (.int c1), .val (.int c2), .val (.int (p4 &&& (7 : Int32))), .val (.ref b603), .val (.int (0 : Int32)), .val (.int (32 : Int32))]) rfl ?_
                      show Steps p.tables e below (T686.setTop (mkF m 272 #[.val (.int p1), .val (.int p2), .val (.int p3), .val (.int p4), .val (.int c0), .val (.int c1), .val (.int c2), .val (.int (p4 &&& (7 : Int32))), .val (.ref b603), .val (.int (0 : Int32)), .val (.int (32 : Int32))] [])) _
                      exact k
                    have Gc688 : Arf Z h628 b603 kb603 .char (32 : Int32) (own_cv (own_chL (0 : Int32) (16 : Int32) (31 : Int32) c0 c1 c2)) := own_aL fa628 hc0 hc1 hc2
                    obtain ⟨T689, h689, X689, e689, E689, A689, D689, -, st689⟩ := newO X686 hx hZ hown (own_w hw 6 rfl) (own_w hw 7 rfl) (own_w hw 8 rfl) eq686 (g := (mkF m 272 #[.val (.int p1), .val (.int p2), .val (.int p3), .val (.int p4), .val (.int c0), .val (.int c1), .val (.int c2), .val (.int (p4 &&& (7 : Int32))), .val (.ref b603), .val (.int (0 : Int32)), .val (.int (32 : Int32))] [])) rfl (hb hby at_272) (by decide) (by decide)
                    obtain ⟨b689, g689⟩ : ∃ z, z = h628.size := ⟨_, rfl⟩
                    rw [← g689] at A689 D689 st689
                    have gn689 : n0 ≤ b689 := Nat.le_trans f629 (Nat.le_of_eq g689.symm)
                    have ne689_b603 : b603 ≠ b689 := Nat.ne_of_lt (Nat.lt_of_lt_of_le Gc688.lt (Nat.le_of_eq g689.symm))
                    have f690 := Nat.le_trans f629 E689.1
                    have f691 := Nat.le_trans f630 E689.1
                    have f692 := f631.ext E689
                    have f693 := f632.ext E689
                    have f694 := f633.ext E689
                    have f695 := f634.ext E689
                    have f696 := f635.ext E689
                    have f697 := Gc688.ext E689
                    have f698 : Fld Z h689 b689 "java/lang/String" "coder" "B" (.int (0 : Int32)) := D689 (Or.inr (own_w hw 32 rfl)) (ty := .byte) (by decide)
                    have f699 : Fld Z h689 b689 "java/lang/String" "value" "[B" .null := D689 (Or.inr (own_w hw 34 rfl)) (ty := (.array .byte)) (by decide)
                    refine EndsW.go st689 ?_
                    show EndsW _ _ _ _ _ _ _ (T689.setTop (mkF m 275 #[.val (.int p1), .val (.int p2), .val (.int p3), .val (.int p4), .val (.int c0), .val (.int c1), .val (.int c2), .val (.int (p4 &&& (7 : Int32))), .val (.ref b603), .val (.int (0 : Int32)), .val (.int (32 : Int32))] [(.ref b689)]))
                    refine EndsW.go (b := T689.setTop (mkF m 278 #[.val (.int p1), .val (.int p2), .val (.int p3), .val (.int p4), .val (.int c0), .val (.int c1), .val (.int c2), .val (.int (p4 &&& (7 : Int32))), .val (.ref b603), .val (.int (0 : Int32)), .val (.int (32 : Int32))] [(.ref b603), (.ref b689), (.ref b689)])) (fun t k => ?_) ?_
                    · show Steps p.tables e below (T689.setTop (mkF m 275 #[.val (.int p1), .val (.int p2), .val (.int p3), .val (.int p4), .val (.int c0), .val (.int c1), .val (.int c2), .val (.int (p4 &&& (7 : Int32))), .val (.ref b603), .val (.int (0 : Int32)), .val (.int (32 : Int32))] [(.ref b689)])) _
                      refine XS.dup X689.here hx rfl (hb hby at_275) rfl rfl ?_
                      refine XS.aload X689.here hx rfl (hb hby at_276) rfl rfl ?_
                      exact k
                    obtain ⟨_, _, ⟨T700, L700, kk700, nn700⟩, -, X700, ⟨Lc700, hQ700, l700, y700, z700⟩, st700⟩ := X689.specialBack hx (y := (⟨"java/lang/String", "<init>", "([C)V"⟩ : MethodName)) rfl hown (mvT hZ (own_w hw 9 rfl)) (mvT hZ (own_w hw 10 rfl)) (mvT hZ (own_w hw 11 rfl)) (by decide) (backOf (W := 1) (rm2 l Z a0 hw [] b689 b603 cs fv kb603 (32 : Int32) (own_chL (0 : Int32) (16 : Int32) (31 : Int32) c0 c1 c2) h689 n0 f690 ⟨f692, hcs, f693, hfv, f694, f695, f696⟩ A689 f699 f698 gn689 (Ne.symm ne689_b603) f697 (by decide) (by decide) (by decide) (own_chLR _ _ _ c0 c1 c2 hc0 hc1 hc2)) hZ (own_w hw 11 rfl) (own_w hw 8 rfl) (by decide) (by decide)) (g := (mkF m 278 #[.val (.int p1), .val (.int p2), .val (.int p3), .val (.int p4), .val (.int c0), .val (.int c1), .val (.int c2), .val (.int (p4 &&& (7 : Int32))), .val (.ref b603), .val (.int (0 : Int32)), .val (.int (32 : Int32))] [(.ref b603), (.ref b689), (.ref b689)])) rfl (by rw [hml]; rfl) (Steps.refl _) (a := b689) (argsL := [(.ref b603)]) (rest := [(.ref b689)]) (lenOf pd_16 rfl) rfl (by show 2 * 0 + _ ≤ _; exact Nat.le_of_eq rfl) (hb hby at_278) (fun _ _ => ⟨rfl, e689, (by decide : 2 + 2 ≤ _), (by decide : 37 + 99 ≤ _)⟩)
                    dsimp only [Pt.U, Pt.locs, Pt.cells, Pt.slots] at X700 l700 y700 z700 st700 hQ700
                    subst l700 y700 z700
                    obtain ⟨rfl, Nq700, K700, Ys700⟩ := hQ700
                    have N700 := Fr.app N686 Nq700
                    have f701 := Nat.le_trans f690 K700.1
                    have f702 := Nat.le_trans f691 K700.1
                    have f703 := own_sta_keep f692 K700 A689
                    have f704 := own_sta_keep f693 K700 A689
                    have f705 := own_sta_keep f694 K700 A689
                    have f706 := own_sta_keep f695 K700 A689
                    have f707 := own_sta_keep f696 K700 A689
                    have f708 := f697.keep K700 (ninS ne689_b603 nin0)
                    have f709 := A689.keep K700
                    refine EndsW.go (fun t k => st700.trans k) ?_
                    show EndsW _ _ _ _ _ _ _ (T700.setTop (mkF m 281 #[.val (.int p1), .val (.int p2), .val (.int p3), .val (.int p4), .val (.int c0), .val (.int c1), .val (.int c2), .val (.int (p4 &&& (7 : Int32))), .val (.ref b603), .val (.int (0 : Int32)), .val (.int (32 : Int32))] [(.ref b689)]))
                    obtain ⟨_, _, ⟨T710, L710, kk710, nn710⟩, -, X710, ⟨Lc710, hQ710, l710, y710, z710⟩, st710⟩ := Jvm.LawKit.callS X700 hx (y := (⟨"com/example/lossfall/lossfall/model/CertificateClass", "isValidName", "(Ljava/lang/String;)Z"⟩ : MethodName)) hown (mvT hZ (own_w hw 35 rfl)) (mvT hZ (own_w hw 36 rfl)) (mvT hZ (own_w hw 37 rfl)) (mvT hZ (own_w hw 38 rfl)) (by decide) (backOf (W := 0) (rm8 l Z a0 hw [] b689 cs fv (32 : Int32) (own_chL (0 : Int32) (16 : Int32) (31 : Int32) c0 c1 c2) T700.heap n0 f701 ⟨f703, hcs, f704, hfv, f705, f706, f707⟩ Ys700 (by decide) (by decide) (own_chLR _ _ _ c0 c1 c2 hc0 hc1 hc2) Ys700.1) hZ (own_w hw 38 rfl) (own_w hw 37 rfl) (by decide) (by decide)) (g := (mkF m 281 #[.val (.int p1), .val (.int p2), .val (.int p3), .val (.int p4), .val (.int c0), .val (.int c1), .val (.int c2), .val (.int (p4 &&& (7 : Int32))), .val (.ref b603), .val (.int (0 : Int32)), .val (.int (32 : Int32))] [(.ref b689)])) rfl (by rw [hml]; rfl) (argsL := [(.ref b689)]) (rest := []) (lenOf pd_17 rfl) rfl (by show 2 * 0 + _ ≤ _; exact Nat.le_of_eq rfl) (hb hby at_281) (fun _ _ => ⟨rfl, rfl, (by decide : 4 + 0 ≤ _), (by decide : 136 + 0 ≤ _)⟩)
                    dsimp only [Pt.U, Pt.locs, Pt.cells, Pt.slots] at X710 l710 y710 z710 st710 hQ710
                    subst l710 y710 z710
                    obtain ⟨rfl, Nq710, eq710⟩ := hQ710
                    have N710 := Fr.app N700 Nq710
                    refine EndsW.go st710 ?_
                    show EndsW _ _ _ _ _ _ _ (T710.setTop (mkF m 284 #[.val (.int p1), .val (.int p2), .val (.int p3), .val (.int p4), .val (.int c0), .val (.int c1), .val (.int c2), .val (.int (p4 &&& (7 : Int32))), .val (.ref b603), .val (.int (0 : Int32)), .val (.int (32 : Int32))] [(.int (own_val (32 : Int32) (own_chL (0 : Int32) (16 : Int32) (31 : Int32) c0 c1 c2)))]))
                    refine EndsW.go (b := T710.setTop (mkF m 294 #[.val (.int p1), .val (.int p2), .val (.int p3), .val (.int p4), .val (.int c0), .val (.int c1), .val (.int c2), .val (.int (p4 &&& (7 : Int32))), .val (.ref b603), .val (.int (0 : Int32)), .val (.int (32 : Int32))] [(.int (1 : Int32))])) (fun t k => ?_) ?_
                    · show Steps p.tables e below (T710.setTop (mkF m 284 #[.val (.int p1), .val (.int p2), .val (.int p3), .val (.int p4), .val (.int c0), .val (.int c1), .val (.int c2), .val (.int (p4 &&& (7 : Int32))), .val (.ref b603), .val (.int (0 : Int32)), .val (.int (32 : Int32))] [(.int (own_val (32 : Int32) (own_chL (0 : Int32) (16 : Int32) (31 : Int32) c0 c1 c2)))])) _
                      refine XS.iload X710.here hx rfl (hb hby at_284) rfl ?_
                      refine XS.icmpNo X710.here hx rfl (hb hby at_286) rfl (teq (own_vZero _ _ (by decide) (by decide) 31 (by decide) c2 rfl hc262_687)).2 ?_
                      show Steps p.tables e below (T710.setTop (mkF m 289 #[.val (.int p1), .val (.int p2), .val (.int p3), .val (.int p4), .val (.int c0), .val (.int c1), .val (.int c2), .val (.int (p4 &&& (7 : Int32))), .val (.ref b603), .val (.int (0 : Int32)), .val (.int (32 : Int32))] [])) _
                      refine XS.iconst X710.here hx rfl (hb hby at_289) ?_
                      show Steps p.tables e below (T710.setTop (mkF m 290 #[.val (.int p1), .val (.int p2), .val (.int p3), .val (.int p4), .val (.int c0), .val (.int c1), .val (.int c2), .val (.int (p4 &&& (7 : Int32))), .val (.ref b603), .val (.int (0 : Int32)), .val (.int (32 : Int32))] [(.int (1 : Int32))])) _
                      refine XS.goto X710.here hx rfl (pc0 := 290) (pc' := 294) rfl (hb hby at_290) (by decide) (by decide) ?_
                      exact k
                    refine EndsW.retN X710 hS0 (by rw [eq710]; exact f702) hx Bd.notSynchronized (t := .boolean) Bd.returns (by simp) (hb hby at_294) (by decide) (by decide) ?_
                    show Q0 Z p1 p2 p3 p4 cs fv h0 n0 (some (.int (nar .boolean (1 : Int32)))) T710.heap _
                    rw [eq710]
                    exact ⟨rfl, N710⟩
                  · refine EndsW.go (b := T686.setTop (mkF m 265 #[.val (.int p1), .val (.int p2), .val (.int p3), .val (.int p4), .val (.int c0), .val (.int c1), .val (.int c2), .val (.int (p4 &&& (7 : Int32))), .val (.ref b603), .unset, .val (.int (32 : Int32))] [])) (fun t k => ?_) ?_
                    · show Steps p.tables e below (T686.setTop (mkF m 262 #[.val (.int p1), .val (.int p2), .val (.int p3), .val (.int p4), .val (.int c0), .val (.int c1), .val (.int c2), .val (.int (p4 &&& (7 : Int32))), .val (.ref b603), .unset, .val (.int (32 : Int32))] [(.int (own_okc c2))])) _
                      refine XS.ifNo X686.here hx rfl (hb hby at_262) rfl ((if0 _ _).trans (feq hc262_687).1) ?_
                      show Steps p.tables e below (T686.setTop (mkF m 265 #[.val (.int p1), .val (.int p2), .val (.int p3), .val (.int p4), .val (.int c0), .val (.int c1), .val (.int c2), .val (.int (p4 &&& (7 : Int32))), .val (.ref b603), .unset, .val (.int (32 : Int32))] [])) _
                      exact k
                    refine EndsW.go (b := T686.setTop (mkF m 272 #[.val (.int p1), .val (.int p2), .val (.int p3), .val (.int p4), .val (.int c0), .val (.int c1), .val (.int c2), .val (.int (p4 &&& (7 : Int32))), .val (.ref b603), .val (.int (1 : Int32)), .val (.int (32 : Int32))] [])) (fun t k => ?_) ?_
                    · show Steps p.tables e below (T686.setTop (mkF m 265 #[.val (.int p1), .val (.int p2), .val (.int p3), .val (.int p4), .val (.int c0), .val (.int c1), .val (.int c2), .val (.int (p4 &&& (7 : Int32))), .val (.ref b603), .unset, .val (.int (32 : Int32))] [])) _
                      refine XS.iconst X686.here hx rfl (hb hby at_265) ?_
                      refine XS.goto X686.here hx rfl (pc0 := 266) (pc' := 270) rfl (hb hby at_266) (by decide) (by decide) ?_
                      refine XS.istore X686.here hx rfl (hb hby at_270) rfl (l' := #[.val (.int p1), .val (.int p2), .val (.int p3), .val (.int p4), .val (.int c0), .val (.int c1), .val (.int c2), .val (.int (p4 &&& (7 : Int32))), .val (.ref b603), .val (.int (1 : Int32)), .val (.int (32 : Int32))]) rfl ?_
                      show Steps p.tables e below (T686.setTop (mkF m 272 #[.val (.int p1), .val (.int p2), .val (.int p3), .val (.int p4), .val (.int c0), .val (.int c1), .val (.int c2), .val (.int (p4 &&& (7 : Int32))), .val (.ref b603), .val (.int (1 : Int32)), .val (.int (32 : Int32))] [])) _
                      exact k
                    have Gc711 : Arf Z h628 b603 kb603 .char (32 : Int32) (own_cv (own_chL (0 : Int32) (16 : Int32) (31 : Int32) c0 c1 c2)) := own_aL fa628 hc0 hc1 hc2
                    obtain ⟨T712, h712, X712, e712, E712, A712, D712, -, st712⟩ := newO X686 hx hZ hown (own_w hw 6 rfl) (own_w hw 7 rfl) (own_w hw 8 rfl) eq686 (g := (mkF m 272 #[.val (.int p1), .val (.int p2), .val (.int p3), .val (.int p4), .val (.int c0), .val (.int c1), .val (.int c2), .val (.int (p4 &&& (7 : Int32))), .val (.ref b603), .val (.int (1 : Int32)), .val (.int (32 : Int32))] [])) rfl (hb hby at_272) (by decide) (by decide)
                    obtain ⟨b712, g712⟩ : ∃ z, z = h628.size := ⟨_, rfl⟩
                    rw [← g712] at A712 D712 st712
                    have gn712 : n0 ≤ b712 := Nat.le_trans f629 (Nat.le_of_eq g712.symm)
                    have ne712_b603 : b603 ≠ b712 := Nat.ne_of_lt (Nat.lt_of_lt_of_le Gc711.lt (Nat.le_of_eq g712.symm))
                    have f713 := Nat.le_trans f629 E712.1
                    have f714 := Nat.le_trans f630 E712.1
                    have f715 := f631.ext E712
                    have f716 := f632.ext E712
                    have f717 := f633.ext E712
                    have f718 := f634.ext E712
                    have f719 := f635.ext E712
                    have f720 := Gc711.ext E712
                    have f721 : Fld Z h712 b712 "java/lang/String" "coder" "B" (.int (0 : Int32)) := D712 (Or.inr (own_w hw 32 rfl)) (ty := .byte) (by decide)
                    have f722 : Fld Z h712 b712 "java/lang/String" "value" "[B" .null := D712 (Or.inr (own_w hw 34 rfl)) (ty := (.array .byte)) (by decide)
                    refine EndsW.go st712 ?_
                    show EndsW _ _ _ _ _ _ _ (T712.setTop (mkF m 275 #[.val (.int p1), .val (.int p2), .val (.int p3), .val (.int p4), .val (.int c0), .val (.int c1), .val (.int c2), .val (.int (p4 &&& (7 : Int32))), .val (.ref b603), .val (.int (1 : Int32)), .val (.int (32 : Int32))] [(.ref b712)]))
                    refine EndsW.go (b := T712.setTop (mkF m 278 #[.val (.int p1), .val (.int p2), .val (.int p3), .val (.int p4), .val (.int c0), .val (.int c1), .val (.int c2), .val (.int (p4 &&& (7 : Int32))), .val (.ref b603), .val (.int (1 : Int32)), .val (.int (32 : Int32))] [(.ref b603), (.ref b712), (.ref b712)])) (fun t k => ?_) ?_
                    · show Steps p.tables e below (T712.setTop (mkF m 275 #[.val (.int p1), .val (.int p2), .val (.int p3), .val (.int p4), .val (.int c0), .val (.int c1), .val (.int c2), .val (.int (p4 &&& (7 : Int32))), .val (.ref b603), .val (.int (1 : Int32)), .val (.int (32 : Int32))] [(.ref b712)])) _
                      refine XS.dup X712.here hx rfl (hb hby at_275) rfl rfl ?_
                      refine XS.aload X712.here hx rfl (hb hby at_276) rfl rfl ?_
                      exact k
                    obtain ⟨_, _, ⟨T723, L723, kk723, nn723⟩, -, X723, ⟨Lc723, hQ723, l723, y723, z723⟩, st723⟩ := X712.specialBack hx (y := (⟨"java/lang/String", "<init>", "([C)V"⟩ : MethodName)) rfl hown (mvT hZ (own_w hw 9 rfl)) (mvT hZ (own_w hw 10 rfl)) (mvT hZ (own_w hw 11 rfl)) (by decide) (backOf (W := 1) (rm2 l Z a0 hw [] b712 b603 cs fv kb603 (32 : Int32) (own_chL (0 : Int32) (16 : Int32) (31 : Int32) c0 c1 c2) h712 n0 f713 ⟨f715, hcs, f716, hfv, f717, f718, f719⟩ A712 f722 f721 gn712 (Ne.symm ne712_b603) f720 (by decide) (by decide) (by decide) (own_chLR _ _ _ c0 c1 c2 hc0 hc1 hc2)) hZ (own_w hw 11 rfl) (own_w hw 8 rfl) (by decide) (by decide)) (g := (mkF m 278 #[.val (.int p1), .val (.int p2), .val (.int p3), .val (.int p4), .val (.int c0), .val (.int c1), .val (.int c2), .val (.int (p4 &&& (7 : Int32))), .val (.ref b603), .val (.int (1 : Int32)), .val (.int (32 : Int32))] [(.ref b603), (.ref b712), (.ref b712)])) rfl (by rw [hml]; rfl) (Steps.refl _) (a := b712) (argsL := [(.ref b603)]) (rest := [(.ref b712)]) (lenOf pd_16 rfl) rfl (by show 2 * 0 + _ ≤ _; exact Nat.le_of_eq rfl) (hb hby at_278) (fun _ _ => ⟨rfl, e712, (by decide : 2 + 2 ≤ _), (by decide : 37 + 99 ≤ _)⟩)
                    dsimp only [Pt.U, Pt.locs, Pt.cells, Pt.slots] at X723 l723 y723 z723 st723 hQ723
                    subst l723 y723 z723
                    obtain ⟨rfl, Nq723, K723, Ys723⟩ := hQ723
                    have N723 := Fr.app N686 Nq723
                    have f724 := Nat.le_trans f713 K723.1
                    have f725 := Nat.le_trans f714 K723.1
                    have f726 := own_sta_keep f715 K723 A712
                    have f727 := own_sta_keep f716 K723 A712
                    have f728 := own_sta_keep f717 K723 A712
                    have f729 := own_sta_keep f718 K723 A712
                    have f730 := own_sta_keep f719 K723 A712
                    have f731 := f720.keep K723 (ninS ne712_b603 nin0)
                    have f732 := A712.keep K723
                    refine EndsW.go (fun t k => st723.trans k) ?_
                    show EndsW _ _ _ _ _ _ _ (T723.setTop (mkF m 281 #[.val (.int p1), .val (.int p2), .val (.int p3), .val (.int p4), .val (.int c0), .val (.int c1), .val (.int c2), .val (.int (p4 &&& (7 : Int32))), .val (.ref b603), .val (.int (1 : Int32)), .val (.int (32 : Int32))] [(.ref b712)]))
                    obtain ⟨_, _, ⟨T733, L733, kk733, nn733⟩, -, X733, ⟨Lc733, hQ733, l733, y733, z733⟩, st733⟩ := Jvm.LawKit.callS X723 hx (y := (⟨"com/example/lossfall/lossfall/model/CertificateClass", "isValidName", "(Ljava/lang/String;)Z"⟩ : MethodName)) hown (mvT hZ (own_w hw 35 rfl)) (mvT hZ (own_w hw 36 rfl)) (mvT hZ (own_w hw 37 rfl)) (mvT hZ (own_w hw 38 rfl)) (by decide) (backOf (W := 0) (rm8 l Z a0 hw [] b712 cs fv (32 : Int32) (own_chL (0 : Int32) (16 : Int32) (31 : Int32) c0 c1 c2) T723.heap n0 f724 ⟨f726, hcs, f727, hfv, f728, f729, f730⟩ Ys723 (by decide) (by decide) (own_chLR _ _ _ c0 c1 c2 hc0 hc1 hc2) Ys723.1) hZ (own_w hw 38 rfl) (own_w hw 37 rfl) (by decide) (by decide)) (g := (mkF m 281 #[.val (.int p1), .val (.int p2), .val (.int p3), .val (.int p4), .val (.int c0), .val (.int c1), .val (.int c2), .val (.int (p4 &&& (7 : Int32))), .val (.ref b603), .val (.int (1 : Int32)), .val (.int (32 : Int32))] [(.ref b712)])) rfl (by rw [hml]; rfl) (argsL := [(.ref b712)]) (rest := []) (lenOf pd_17 rfl) rfl (by show 2 * 0 + _ ≤ _; exact Nat.le_of_eq rfl) (hb hby at_281) (fun _ _ => ⟨rfl, rfl, (by decide : 4 + 0 ≤ _), (by decide : 136 + 0 ≤ _)⟩)
                    dsimp only [Pt.U, Pt.locs, Pt.cells, Pt.slots] at X733 l733 y733 z733 st733 hQ733
                    subst l733 y733 z733
                    obtain ⟨rfl, Nq733, eq733⟩ := hQ733
                    have N733 := Fr.app N723 Nq733
                    refine EndsW.go st733 ?_
                    show EndsW _ _ _ _ _ _ _ (T733.setTop (mkF m 284 #[.val (.int p1), .val (.int p2), .val (.int p3), .val (.int p4), .val (.int c0), .val (.int c1), .val (.int c2), .val (.int (p4 &&& (7 : Int32))), .val (.ref b603), .val (.int (1 : Int32)), .val (.int (32 : Int32))] [(.int (own_val (32 : Int32) (own_chL (0 : Int32) (16 : Int32) (31 : Int32) c0 c1 c2)))]))
                    refine EndsW.go (b := T733.setTop (mkF m 294 #[.val (.int p1), .val (.int p2), .val (.int p3), .val (.int p4), .val (.int c0), .val (.int c1), .val (.int c2), .val (.int (p4 &&& (7 : Int32))), .val (.ref b603), .val (.int (1 : Int32)), .val (.int (32 : Int32))] [(.int (1 : Int32))])) (fun t k => ?_) ?_
                    · show Steps p.tables e below (T733.setTop (mkF m 284 #[.val (.int p1), .val (.int p2), .val (.int p3), .val (.int p4), .val (.int c0), .val (.int c1), .val (.int c2), .val (.int (p4 &&& (7 : Int32))), .val (.ref b603), .val (.int (1 : Int32)), .val (.int (32 : Int32))] [(.int (own_val (32 : Int32) (own_chL (0 : Int32) (16 : Int32) (31 : Int32) c0 c1 c2)))])) _
                      refine XS.iload X733.here hx rfl (hb hby at_284) rfl ?_
                      refine XS.icmpNo X733.here hx rfl (hb hby at_286) rfl (teq (own_vOne _ _ (by decide) (by decide) (fun j hj => own_vL _ _ _ c0 c1 c2 j (own_okn _ hc246_637) (own_okn _ hc254_662) (own_okn _ hc262_687)))).2 ?_
                      show Steps p.tables e below (T733.setTop (mkF m 289 #[.val (.int p1), .val (.int p2), .val (.int p3), .val (.int p4), .val (.int c0), .val (.int c1), .val (.int c2), .val (.int (p4 &&& (7 : Int32))), .val (.ref b603), .val (.int (1 : Int32)), .val (.int (32 : Int32))] [])) _
                      refine XS.iconst X733.here hx rfl (hb hby at_289) ?_
                      show Steps p.tables e below (T733.setTop (mkF m 290 #[.val (.int p1), .val (.int p2), .val (.int p3), .val (.int p4), .val (.int c0), .val (.int c1), .val (.int c2), .val (.int (p4 &&& (7 : Int32))), .val (.ref b603), .val (.int (1 : Int32)), .val (.int (32 : Int32))] [(.int (1 : Int32))])) _
                      refine XS.goto X733.here hx rfl (pc0 := 290) (pc' := 294) rfl (hb hby at_290) (by decide) (by decide) ?_
                      exact k
                    refine EndsW.retN X733 hS0 (by rw [eq733]; exact f725) hx Bd.notSynchronized (t := .boolean) Bd.returns (by simp) (hb hby at_294) (by decide) (by decide) ?_
                    show Q0 Z p1 p2 p3 p4 cs fv h0 n0 (some (.int (nar .boolean (1 : Int32)))) T733.heap _
                    rw [eq733]
                    exact ⟨rfl, N733⟩
set_option maxRecDepth 65536 in
set_option maxHeartbeats 40000000 in
theorem comes_1 {Post : Tables → Env → Array Value → State → Outcome → State → Prop} (hpost : ∀ tb e args s v u, (limb_1_1.after args s (.returned v) u = true ∧ limb_1_2.after args s (.returned v) u = true ∧ True) → ReturnedEndW s (.returned v) u (Jvm.fieldLocs frame_1_writes args s ++ Jvm.arrayLocs frame_1_arrays args s ++ Jvm.staticLocs frame_1_statics s) 24 1408 → Post tb e args s (.returned v) u) :
    ArmFor flags0 classFile x code maxLocals ret World_1 tables_1 room_1 Calls_1 rest_1 Pre_1 Post := by
  intro l hfl _ _ p e ha hc hk s m args below hf hA hF happ hP
  obtain ⟨hcalls, hrest, hpre⟩ := hP
  obtain ⟨-, -, -, hnamed, -, -, -, hat⟩ := (Spec.applies_iff hf).mp happ
  obtain ⟨hg, hn⟩ := and_e (Cond.before_iff.mp (show (Jvm.Cond.and given_1 narrow_1).before args s = true from hpre))
  obtain ⟨g1a, g1b⟩ := and_e hg
  obtain ⟨g2a, g2b⟩ := and_e g1b
  obtain ⟨g3a, g3b⟩ := and_e g2b
  obtain ⟨g4a, g4b⟩ := and_e g3b
  obtain ⟨w0, w1, w2, w3, rfl⟩ : ∃ w0 w1 w2 w3 : Value, args = #[w0, w1, w2, w3] := by
    have hs : args.size = 4 := by simpa [Cond.value, given_1] using g1a
    obtain ⟨L⟩ := args
    match L, hs with
    | [w0, w1, w2, w3], _ => exact ⟨w0, w1, w2, w3, rfl⟩
  have hw := fun d (hd : d ∈ tables_1) => atoms_spec (ws := Jvm.Cond.code x code maxLocals ret :: tables_1) hat d (List.mem_cons_of_mem _ hd)
  have hfit : Fit s := fun {y c} hc i hi => by
    obtain ⟨ha, rfl⟩ := Array.getElem?_eq_some_iff.mp hc
    have q := List.all_eq_true.mp ((Array.all_eq_true_iff_forall_mem.mp hF) _ (Array.getElem_mem ha)) i (List.mem_range.mpr hi)
    simpa [Array.getElem?_eq_getElem hi] using q
  obtain ⟨i0, ei0⟩ := is_v g2a
  obtain rfl : w0 = (.int i0) := Option.some.inj ei0
  obtain ⟨i1, ei1⟩ := is_v g3a
  obtain rfl : w1 = (.int i1) := Option.some.inj ei1
  obtain ⟨i2, ei2⟩ := is_v g4a
  obtain rfl : w2 = (.int i2) := Option.some.inj ei2
  obtain ⟨i3, ei3⟩ := is_v g4b
  obtain rfl : w3 = (.int i3) := Option.some.inj ei3
  obtain ⟨hsets, hown0⟩ := atoms_of _ (rest_1_c_eq ▸ (show rest_1_c.before _ s = true from hrest))
  obtain ⟨cs, ev_c⟩ := is_v (Cond.before_iff.mp (hsets _ (List.mem_of_getElem? (i := 1) rfl)))
  have S_C := Sta.start ev_c (Or.inl (hsets _ (List.mem_of_getElem? (i := 0) rfl)))
  have hcs : ¬ cs = (0 : Int32) := own_nez ev_c (Cond.before_iff.mp (hsets _ (List.mem_of_getElem? (i := 2) rfl)))
  obtain ⟨fv, ev_f, hfv⟩ := own_isr (Cond.before_iff.mp (hsets _ (List.mem_of_getElem? (i := 8) rfl)))
  have S_F := Sta.start ev_f (Or.inl (hsets _ (List.mem_of_getElem? (i := 7) rfl)))
  have S_A := Sta.start (own_eqI (Cond.before_iff.mp (hsets _ (List.mem_of_getElem? (i := 12) rfl)))) (Or.inl (hsets _ (List.mem_of_getElem? (i := 11) rfl)))
  have S_H := Sta.start (own_eqI (Cond.before_iff.mp (hsets _ (List.mem_of_getElem? (i := 15) rfl)))) (Or.inl (hsets _ (List.mem_of_getElem? (i := 14) rfl)))
  have S_L := Sta.start (own_eqI (Cond.before_iff.mp (hsets _ (List.mem_of_getElem? (i := 18) rfl)))) (Or.inl (hsets _ (List.mem_of_getElem? (i := 17) rfl)))
  have ST : own_St s s.heap cs fv := ⟨S_C, hcs, S_F, hfv, S_A, S_H, S_L⟩
  have HC : CHv s [("java/lang/String", 7)] s.vm s.heap := CHv.start (a0 := _) (EW.cons (own_w hw 76 rfl) (by simp) EW.nil) hcalls.1 (hsets _ (List.mem_of_getElem? (i := 2) rfl)) (own_w hw 24 rfl) (own_w hw 7 rfl)
  obtain ⟨n, o, h1, h2, h3, _, L, rfl, ⟨rfl, N⟩, hq⟩ := rm0 l s _ hw tables_1 i0 i1 i2 i3 cs fv s.heap s.heap.size (Nat.le_refl _) ST p e ha hc hk s m _ below hf ((Spec.applies_iff_loose hf).mp happ).1 ⟨rfl, State.Warmed39.refl s, rfl, HC⟩ trivial
  refine ⟨n, _, h1, h2, h3, hpost _ _ _ _ _ _ ⟨Cond.after_iff.mpr rfl, Cond.after_iff.mpr (eq_i res_at (Term.int_eval (1)) rfl), trivial⟩ ⟨hq.1, hq.2.1, hq.2.2.1, (hq.2.2.2.sift fun y hy => Or.inr (N y hy)).mono (by decide) (by decide)⟩⟩
theorem main_1_1 : Claimed_1_1 := comes_1 fun _ _ _ _ _ _ h hF => ⟨h.1, hF⟩
theorem main_1_2 : Claimed_1_2 := comes_1 fun _ _ _ _ _ _ h hF => ⟨h.2.1, hF⟩
end Jvm.Pilot.@@N@@
namespace Jvm.Pilot.@@N@@
open Jvm Jvm.ClassFile Sem Op Lib Jvm.Free Jvm.Stand Jvm.Pilot.@@N@@.Jvm.D
/-! MADE BY PROGRAM (witnessworld.py) out of the Statement's table words and the real class files: 21 classes; the members and pool entries that the words name. The judged class is class 1, her method 1. -/
namespace start1
open Jvm.ClassFile
def u (s : String) : CpInfo := .utf8 (stringToUtf16 s)
/-- a pool by its gaps: so many unusable entries, then the entry; so many at the end -/
def gap : Nat → List CpInfo → List CpInfo
  | 0, r => r
  | n + 1, r => .unusable :: gap n r
def poolList (es : List (Nat × CpInfo)) (last : Nat) : List CpInfo := es.foldr (fun e r => gap e.1 (e.2 :: r)) (gap last [])
def pool (es : List (Nat × CpInfo)) (last : Nat) : Array CpInfo := ⟨poolList es last⟩
def fileOf (pool : Array CpInfo) (this : Nat) (attrs : Array Attribute := #[]) (ms : Array MethodInfo := #[]) (fl : Nat := 33) (sup : Nat := 0) (ifs : Array Nat := #[]) (fds : Array FieldInfo := #[]) : ClassFile where
  minorVersion := 0
  majorVersion := 65
  constantPool := pool
  accessFlags := fl
  thisClass := this
  superClass := sup
  interfaces := ifs
  fields := fds
  methods := ms
  attributes := attrs
def plain (name : String) (sup : Option ClassId) : Class where
  name := name
  kind := .ordinary
  loader := none
  accessFlags := 33
  super := sup
  interfaces := #[]
  cf := none
  fields := #[]
  methods := #[]
  instanceTypes := #[]
  staticTypes := #[]
  resolved := #[]
  callSites := []
  init := .initialized
  statics := none
  mirror := none

def pool0 : Array CpInfo := pool [(5, u "<init>"), (0, u "()V"), (1, .class_ 10), (1, u "java/lang/Object")] 113

def k0c0 : Code := { maxStack := 0, maxLocals := 1, code := object_method_1_code, exceptionTable := #[], attributes := #[] }
def k0m0 : Method := { name := "<init>", desc := "()V", sig := { parameters := [], returnType := none }, accessFlags := 1, code := some k0c0 }
/-- java/lang/Object -/
def k0 : Class := { plain "java/lang/Object" none with
  accessFlags := 33
  interfaces := #[]
  cf := some (fileOf pool0 8 #[] #[{ accessFlags := 1, nameIndex := 5, descriptorIndex := 6, attributes := #[] }] 33 0 #[] #[])
  fields := #[]
  methods := #[k0m0]
  instanceTypes := #[]
  staticTypes := #[]
  resolved := Array.replicate 124 none
  statics := none }

def pool1 : Array CpInfo := pool [(2, .class_ 4), (1, u "java/lang/Object"), (0, u "<init>"), (0, u "()V"), (0, .integer 65535), (0, .methodref 9 10), (0, .class_ 11), (0, .nameAndType 12 13), (0, u "com/example/lossfall/lossfall/model/CertificateClassIsValidNamePinLaw"), (0, u "ok"), (0, u "(C)Z"), (0, .methodref 9 15), (0, .nameAndType 16 17), (0, u "base"), (0, u "(I)[C"), (0, .class_ 19), (0, u "java/lang/String"), (0, .methodref 18 21), (0, .nameAndType 5 22), (0, u "([C)V"), (0, .methodref 24 25), (0, .class_ 26), (0, .nameAndType 27 28), (0, u "com/example/lossfall/lossfall/model/CertificateClass"), (0, u "isValidName"), (0, u "(Ljava/lang/String;)Z"), (2, u "law"), (0, u "(IIII)Z")] 5

def k1m0 : Method := { name := "<init>", desc := "()V", sig := { parameters := [], returnType := none }, accessFlags := 1, code := none }
def k1c1 : Code := { maxStack := 4, maxLocals := 11, code := code, exceptionTable := #[], attributes := #[] }
def k1m1 : Method := { name := "law", desc := "(IIII)Z", sig := { parameters := [.int, .int, .int, .int], returnType := some .boolean }, accessFlags := 9, code := some k1c1 }
def k1c2 : Code := { maxStack := 2, maxLocals := 4, code := method_3_code, exceptionTable := #[], attributes := #[] }
def k1m2 : Method := { name := "ok", desc := "(C)Z", sig := { parameters := [.char], returnType := some .boolean }, accessFlags := 10, code := some k1c2 }
def k1c3 : Code := { maxStack := 4, maxLocals := 1, code := method_4_code, exceptionTable := #[], attributes := #[] }
def k1m3 : Method := { name := "base", desc := "(I)[C", sig := { parameters := [.int], returnType := some (.array .char) }, accessFlags := 10, code := some k1c3 }
/-- com/example/lossfall/lossfall/model/CertificateClassIsValidNamePinLaw -/
def k1 : Class := { plain "com/example/lossfall/lossfall/model/CertificateClassIsValidNamePinLaw" (some 0) with
  accessFlags := 49
  interfaces := #[]
  cf := some (fileOf pool1 9 #[] #[{ accessFlags := 1, nameIndex := 5, descriptorIndex := 6, attributes := #[] }, { accessFlags := 9, nameIndex := 31, descriptorIndex := 32, attributes := #[] }, { accessFlags := 10, nameIndex := 12, descriptorIndex := 13, attributes := #[] }, { accessFlags := 10, nameIndex := 16, descriptorIndex := 17, attributes := #[] }] 49 2 #[] #[])
  fields := #[]
  methods := #[k1m0, k1m1, k1m2, k1m3]
  instanceTypes := #[]
  staticTypes := #[]
  resolved := Array.replicate 38 none
  statics := none }

def pool2 : Array CpInfo := pool [(1, .class_ 2), (0, u "java/io/Serializable"), (0, .class_ 4), (0, u "java/lang/Object")] 2

/-- java/io/Serializable -/
def k2 : Class := { plain "java/io/Serializable" (some 0) with
  accessFlags := 1537
  interfaces := #[]
  cf := some (fileOf pool2 1 #[] #[] 1537 3 #[] #[])
  fields := #[]
  methods := #[]
  instanceTypes := #[]
  staticTypes := #[]
  resolved := Array.replicate 7 none
  statics := none }

def pool3 : Array CpInfo := pool [(1, .class_ 2), (0, u "java/lang/Comparable"), (0, .class_ 4), (0, u "java/lang/Object")] 7

/-- java/lang/Comparable -/
def k3 : Class := { plain "java/lang/Comparable" (some 0) with
  accessFlags := 1537
  interfaces := #[]
  cf := some (fileOf pool3 1 #[] #[] 1537 3 #[] #[])
  fields := #[]
  methods := #[]
  instanceTypes := #[]
  staticTypes := #[]
  resolved := Array.replicate 12 none
  statics := none }

def pool4 : Array CpInfo := pool [(2, .class_ 4), (1, u "java/lang/CharSequence"), (42, .class_ 48), (0, u "java/lang/CharSequence$1CodePointIterator"), (10, .class_ 60), (0, u "java/lang/CharSequence$1CharIterator"), (5, .class_ 67), (0, u "java/lang/Object")] 63

/-- java/lang/CharSequence -/
def k4 : Class := { plain "java/lang/CharSequence" (some 0) with
  accessFlags := 1537
  interfaces := #[]
  cf := some (fileOf pool4 2 #[.nestMembers #[47, 59]] #[] 1537 66 #[] #[])
  fields := #[]
  methods := #[]
  instanceTypes := #[]
  staticTypes := #[]
  resolved := Array.replicate 131 none
  statics := none }

def pool5 : Array CpInfo := pool [(1, .class_ 2), (0, u "java/lang/constant/Constable"), (0, .class_ 4), (0, u "java/lang/Object")] 6

/-- java/lang/constant/Constable -/
def k5 : Class := { plain "java/lang/constant/Constable" (some 0) with
  accessFlags := 1537
  interfaces := #[]
  cf := some (fileOf pool5 1 #[] #[] 1537 3 #[] #[])
  fields := #[]
  methods := #[]
  instanceTypes := #[]
  staticTypes := #[]
  resolved := Array.replicate 11 none
  statics := none }

def pool6 : Array CpInfo := pool [(1, .class_ 2), (0, u "java/lang/constant/ConstantDesc"), (0, .class_ 4), (0, u "java/lang/Object")] 32

/-- java/lang/constant/ConstantDesc -/
def k6 : Class := { plain "java/lang/constant/ConstantDesc" (some 0) with
  accessFlags := 1537
  interfaces := #[]
  cf := some (fileOf pool6 1 #[] #[] 1537 3 #[] #[])
  fields := #[]
  methods := #[]
  instanceTypes := #[]
  staticTypes := #[]
  resolved := Array.replicate 37 none
  statics := none }

def pool7 : Array CpInfo := pool [(1, .methodref 2 3), (0, .class_ 4), (0, .nameAndType 5 6), (0, u "java/lang/Object"), (0, u "<init>"), (0, u "()V"), (0, .string 8), (0, u ""), (0, .fieldref 10 11), (0, .class_ 12), (0, .nameAndType 13 14), (0, u "java/lang/String"), (0, u "value"), (0, u "[B"), (0, .fieldref 10 16), (0, .nameAndType 17 18), (0, u "coder"), (0, u "B"), (2, u "hash"), (0, u "I"), (2, u "hashIsZero"), (0, u "Z"), (0, .methodref 10 28), (0, .nameAndType 5 29), (0, u "([CIILjava/lang/Void;)V"), (8, .fieldref 10 39), (0, .nameAndType 40 26), (0, u "COMPACT_STRINGS"), (1, .class_ 44), (1, u "java/lang/StringUTF16"), (0, u "compress"), (1, .methodref 42 48), (0, .nameAndType 49 50), (0, u "coderFromArrayLen"), (0, u "([BI)B"), (56, .class_ 109), (1, u "java/lang/StringLatin1"), (32, u "()Z"), (34, .methodref 42 178), (0, .nameAndType 45 179), (0, u "([CII)[B"), (154, u "()I"), (0, .methodref 10 336), (0, .nameAndType 17 337), (0, u "()B"), (25, u "([BI)C"), (27, u "(II)V"), (35, u "(I)C"), (64, .methodref 10 493), (0, .nameAndType 494 142), (0, u "isLatin1"), (0, .methodref 107 496), (0, .nameAndType 497 363), (0, u "charAt"), (0, .methodref 42 496), (2, u "checkIndex"), (5, u "length"), (67, .class_ 576), (0, u "java/lang/CharSequence"), (22, u "CASE_INSENSITIVE_ORDER"), (0, u "Ljava/util/Comparator;"), (91, u "isEmpty"), (317, u "([C)V"), (42, .fieldref 1054 1055), (0, .class_ 1056), (0, .nameAndType 1057 1058), (0, u "jdk/internal/util/Preconditions"), (0, u "SIOOBE_FORMATTER"), (0, u "Ljava/util/function/BiFunction;"), (0, .methodref 1054 1060), (0, .nameAndType 501 1061), (0, u "(IILjava/util/function/BiFunction;)I"), (39, u "serialPersistentFields"), (0, u "[Ljava/io/ObjectStreamField;"), (0, .class_ 1104), (0, u "java/lang/String$CaseInsensitiveComparator"), (1, .class_ 1107), (0, u "java/io/Serializable"), (0, .class_ 1109), (0, u "java/lang/Comparable"), (0, .class_ 1111), (0, u "java/lang/constant/Constable"), (0, .class_ 1113), (0, u "java/lang/constant/ConstantDesc"), (2, u "serialVersionUID"), (0, u "J"), (3, u "REPL"), (0, u "C"), (2, u "LATIN1"), (1, u "UTF16")] 323

def k7m0 : Method := { name := "<init>", desc := "()V", sig := { parameters := [], returnType := none }, accessFlags := 1, code := none }
def k7c1 : Code := { maxStack := 5, maxLocals := 2, code := jdk_42_method_3_code, exceptionTable := #[], attributes := #[] }
def k7m1 : Method := { name := "<init>", desc := "([C)V", sig := { parameters := [(.array .char)], returnType := none }, accessFlags := 1, code := some k7c1 }
def k7c2 : Code := { maxStack := 2, maxLocals := 1, code := jdk_42_method_54_code, exceptionTable := #[], attributes := #[] }
def k7m2 : Method := { name := "length", desc := "()I", sig := { parameters := [], returnType := some .int }, accessFlags := 1, code := some k7c2 }
def k7c3 : Code := { maxStack := 1, maxLocals := 1, code := jdk_42_method_55_code, exceptionTable := #[], attributes := #[] }
def k7m3 : Method := { name := "isEmpty", desc := "()Z", sig := { parameters := [], returnType := some .boolean }, accessFlags := 1, code := some k7c3 }
def k7c4 : Code := { maxStack := 2, maxLocals := 2, code := jdk_42_method_56_code, exceptionTable := #[], attributes := #[] }
def k7m4 : Method := { name := "charAt", desc := "(I)C", sig := { parameters := [.int], returnType := some .char }, accessFlags := 1, code := some k7c4 }
def k7c5 : Code := { maxStack := 4, maxLocals := 6, code := jdk_42_method_149_code, exceptionTable := #[], attributes := #[] }
def k7m5 : Method := { name := "<init>", desc := "([CIILjava/lang/Void;)V", sig := { parameters := [(.array .char), .int, .int, (.object "java/lang/Void")], returnType := none }, accessFlags := 2, code := some k7c5 }
def k7c6 : Code := { maxStack := 1, maxLocals := 1, code := jdk_42_method_152_code, exceptionTable := #[], attributes := #[] }
def k7m6 : Method := { name := "coder", desc := "()B", sig := { parameters := [], returnType := some .byte }, accessFlags := 0, code := some k7c6 }
def k7c7 : Code := { maxStack := 1, maxLocals := 1, code := jdk_42_method_154_code, exceptionTable := #[], attributes := #[] }
def k7m7 : Method := { name := "isLatin1", desc := "()Z", sig := { parameters := [], returnType := some .boolean }, accessFlags := 0, code := some k7c7 }
def k7c8 : Code := { maxStack := 3, maxLocals := 2, code := jdk_42_method_155_code, exceptionTable := #[], attributes := #[] }
def k7m8 : Method := { name := "checkIndex", desc := "(II)V", sig := { parameters := [.int, .int], returnType := none }, accessFlags := 8, code := some k7c8 }
/-- java/lang/String -/
def k7 : Class := { plain "java/lang/String" (some 0) with
  accessFlags := 49
  interfaces := #[2, 3, 4, 5, 6]
  cf := some (fileOf pool7 10 #[.nestMembers #[1103]] #[{ accessFlags := 1, nameIndex := 5, descriptorIndex := 6, attributes := #[] }, { accessFlags := 1, nameIndex := 5, descriptorIndex := 1010, attributes := #[] }, { accessFlags := 1, nameIndex := 507, descriptorIndex := 334, attributes := #[] }, { accessFlags := 1, nameIndex := 692, descriptorIndex := 142, attributes := #[] }, { accessFlags := 1, nameIndex := 497, descriptorIndex := 427, attributes := #[] }, { accessFlags := 2, nameIndex := 5, descriptorIndex := 29, attributes := #[] }, { accessFlags := 0, nameIndex := 17, descriptorIndex := 337, attributes := #[] }, { accessFlags := 0, nameIndex := 494, descriptorIndex := 142, attributes := #[] }, { accessFlags := 8, nameIndex := 501, descriptorIndex := 391, attributes := #[] }] 49 2 #[1106, 1108, 575, 1110, 1112] #[{ accessFlags := 18, nameIndex := 13, descriptorIndex := 14, attributes := #[] }, { accessFlags := 18, nameIndex := 17, descriptorIndex := 18, attributes := #[] }, { accessFlags := 2, nameIndex := 21, descriptorIndex := 22, attributes := #[] }, { accessFlags := 2, nameIndex := 25, descriptorIndex := 26, attributes := #[] }, { accessFlags := 26, nameIndex := 1116, descriptorIndex := 1117, attributes := #[] }, { accessFlags := 24, nameIndex := 40, descriptorIndex := 26, attributes := #[] }, { accessFlags := 26, nameIndex := 1101, descriptorIndex := 1102, attributes := #[] }, { accessFlags := 26, nameIndex := 1121, descriptorIndex := 1122, attributes := #[] }, { accessFlags := 25, nameIndex := 599, descriptorIndex := 600, attributes := #[] }, { accessFlags := 24, nameIndex := 1125, descriptorIndex := 18, attributes := #[] }, { accessFlags := 24, nameIndex := 1127, descriptorIndex := 18, attributes := #[] }])
  fields := #[{ name := "value", type := (.array .byte), accessFlags := 18, slot := 0, constantValue := 0 }, { name := "coder", type := .byte, accessFlags := 18, slot := 1, constantValue := 0 }, { name := "hash", type := .int, accessFlags := 2, slot := 2, constantValue := 0 }, { name := "hashIsZero", type := .boolean, accessFlags := 2, slot := 3, constantValue := 0 }, { name := "serialVersionUID", type := .long, accessFlags := 26, slot := 0, constantValue := 0 }, { name := "COMPACT_STRINGS", type := .boolean, accessFlags := 24, slot := 1, constantValue := 0 }, { name := "serialPersistentFields", type := (.array (.object "java/io/ObjectStreamField")), accessFlags := 26, slot := 2, constantValue := 0 }, { name := "REPL", type := .char, accessFlags := 26, slot := 3, constantValue := 0 }, { name := "CASE_INSENSITIVE_ORDER", type := (.object "java/util/Comparator"), accessFlags := 25, slot := 4, constantValue := 0 }, { name := "LATIN1", type := .byte, accessFlags := 24, slot := 5, constantValue := 0 }, { name := "UTF16", type := .byte, accessFlags := 24, slot := 6, constantValue := 0 }]
  methods := #[k7m0, k7m1, k7m2, k7m3, k7m4, k7m5, k7m6, k7m7, k7m8]
  instanceTypes := #[(.array .byte), .byte, .int, .boolean]
  staticTypes := #[.long, .boolean, (.array (.object "java/io/ObjectStreamField")), .char, (.object "java/util/Comparator"), .byte, .byte]
  resolved := Array.replicate 1451 none
  statics := some 0 }

def pool8 : Array CpInfo := pool [(3, .class_ 4), (0, u "java/lang/String"), (1, .class_ 8), (1, u "java/lang/Object"), (0, u "<init>"), (0, u "()V"), (0, .methodref 12 13), (0, .class_ 14), (0, .nameAndType 15 16), (0, u "java/lang/StringUTF16"), (0, u "newBytesLength"), (0, u "(I)I"), (3, .integer 1073741823), (23, .fieldref 12 45), (0, .nameAndType 46 47), (0, u "$assertionsDisabled"), (0, u "Z"), (0, .methodref 12 49), (0, .nameAndType 50 51), (0, u "length"), (0, u "([B)I"), (7, .fieldref 12 60), (0, .nameAndType 61 62), (0, u "HI_BYTE_SHIFT"), (0, u "I"), (0, .fieldref 12 64), (0, .nameAndType 65 62), (0, u "LO_BYTE_SHIFT"), (1, .methodref 12 68), (0, .nameAndType 69 70), (0, u "checkIndex"), (0, u "(I[B)V"), (0, .methodref 12 72), (0, .nameAndType 73 74), (0, u "getChar"), (0, u "([BI)C"), (32, .methodref 12 108), (0, .nameAndType 109 110), (0, u "newBytesFor"), (0, u "(I)[B"), (0, .methodref 12 112), (0, .nameAndType 113 114), (0, u "putChar"), (0, u "([BII)V"), (0, .methodref 12 116), (0, .nameAndType 117 118), (0, u "compress"), (0, u "([CI[BII)I"), (0, .methodref 12 120), (0, .nameAndType 121 122), (0, u "toBytes"), (0, u "([CII)[B"), (138, u "coderFromArrayLen"), (0, u "([BI)B"), (106, .class_ 371), (1, u "java/lang/StringUTF16$LinesSpliterator"), (20, u "charAt"), (21, .methodref 3 415), (0, .nameAndType 69 416), (0, u "(II)V"), (13, u "MAX_LENGTH"), (196, .class_ 628), (0, u "java/lang/StringUTF16$CodePointsSpliterator"), (0, .class_ 630), (0, u "java/lang/StringUTF16$CharsSpliterator")] 4

def k8m0 : Method := { name := "<init>", desc := "()V", sig := { parameters := [], returnType := none }, accessFlags := 0, code := none }
def k8c1 : Code := { maxStack := 1, maxLocals := 1, code := jdk_52_method_2_code, exceptionTable := #[], attributes := #[] }
def k8m1 : Method := { name := "newBytesFor", desc := "(I)[B", sig := { parameters := [.int], returnType := some (.array .byte) }, accessFlags := 9, code := some k8c1 }
def k8c2 : Code := { maxStack := 4, maxLocals := 1, code := jdk_52_method_3_code, exceptionTable := #[], attributes := #[] }
def k8m2 : Method := { name := "newBytesLength", desc := "(I)I", sig := { parameters := [.int], returnType := some .int }, accessFlags := 9, code := some k8c2 }
def k8c3 : Code := { maxStack := 4, maxLocals := 3, code := jdk_52_method_4_code, exceptionTable := #[], attributes := #[] }
def k8m3 : Method := { name := "putChar", desc := "([BII)V", sig := { parameters := [(.array .byte), .int, .int], returnType := none }, accessFlags := 8, code := some k8c3 }
def k8c4 : Code := { maxStack := 3, maxLocals := 2, code := jdk_52_method_5_code, exceptionTable := #[], attributes := #[] }
def k8m4 : Method := { name := "getChar", desc := "([BI)C", sig := { parameters := [(.array .byte), .int], returnType := some .char }, accessFlags := 8, code := some k8c4 }
def k8c5 : Code := { maxStack := 2, maxLocals := 1, code := jdk_52_method_6_code, exceptionTable := #[], attributes := #[] }
def k8m5 : Method := { name := "length", desc := "([B)I", sig := { parameters := [(.array .byte)], returnType := some .int }, accessFlags := 9, code := some k8c5 }
def k8c6 : Code := { maxStack := 4, maxLocals := 5, code := jdk_52_method_14_code, exceptionTable := #[], attributes := #[] }
def k8m6 : Method := { name := "toBytes", desc := "([CII)[B", sig := { parameters := [(.array .char), .int, .int], returnType := some (.array .byte) }, accessFlags := 9, code := some k8c6 }
def k8c7 : Code := { maxStack := 2, maxLocals := 2, code := jdk_52_method_15_code, exceptionTable := #[], attributes := #[] }
def k8m7 : Method := { name := "coderFromArrayLen", desc := "([BI)B", sig := { parameters := [(.array .byte), .int], returnType := some .byte }, accessFlags := 8, code := some k8c7 }
def k8c8 : Code := { maxStack := 5, maxLocals := 6, code := jdk_52_method_16_code, exceptionTable := #[], attributes := #[] }
def k8m8 : Method := { name := "compress", desc := "([CII)[B", sig := { parameters := [(.array .char), .int, .int], returnType := some (.array .byte) }, accessFlags := 9, code := some k8c8 }
def k8c9 : Code := { maxStack := 3, maxLocals := 7, code := jdk_52_method_21_code, exceptionTable := #[], attributes := #[] }
def k8m9 : Method := { name := "compress", desc := "([CI[BII)I", sig := { parameters := [(.array .char), .int, (.array .byte), .int, .int], returnType := some .int }, accessFlags := 9, code := some k8c9 }
def k8c10 : Code := { maxStack := 2, maxLocals := 2, code := jdk_52_method_83_code, exceptionTable := #[], attributes := #[] }
def k8m10 : Method := { name := "charAt", desc := "([BI)C", sig := { parameters := [(.array .byte), .int], returnType := some .char }, accessFlags := 9, code := some k8c10 }
def k8c11 : Code := { maxStack := 2, maxLocals := 2, code := jdk_52_method_91_code, exceptionTable := #[], attributes := #[] }
def k8m11 : Method := { name := "checkIndex", desc := "(I[B)V", sig := { parameters := [.int, (.array .byte)], returnType := none }, accessFlags := 9, code := some k8c11 }
/-- java/lang/StringUTF16 -/
def k8 : Class := { plain "java/lang/StringUTF16" (some 0) with
  accessFlags := 48
  interfaces := #[]
  cf := some (fileOf pool8 12 #[.nestMembers #[627, 629, 369]] #[{ accessFlags := 0, nameIndex := 9, descriptorIndex := 10, attributes := #[] }, { accessFlags := 9, nameIndex := 109, descriptorIndex := 110, attributes := #[] }, { accessFlags := 9, nameIndex := 15, descriptorIndex := 16, attributes := #[] }, { accessFlags := 8, nameIndex := 113, descriptorIndex := 114, attributes := #[] }, { accessFlags := 8, nameIndex := 73, descriptorIndex := 74, attributes := #[] }, { accessFlags := 9, nameIndex := 50, descriptorIndex := 51, attributes := #[] }, { accessFlags := 9, nameIndex := 121, descriptorIndex := 122, attributes := #[] }, { accessFlags := 8, nameIndex := 261, descriptorIndex := 262, attributes := #[] }, { accessFlags := 9, nameIndex := 117, descriptorIndex := 122, attributes := #[] }, { accessFlags := 9, nameIndex := 117, descriptorIndex := 118, attributes := #[] }, { accessFlags := 9, nameIndex := 392, descriptorIndex := 74, attributes := #[] }, { accessFlags := 9, nameIndex := 69, descriptorIndex := 70, attributes := #[] }] 48 6 #[] #[{ accessFlags := 26, nameIndex := 61, descriptorIndex := 62, attributes := #[] }, { accessFlags := 26, nameIndex := 65, descriptorIndex := 62, attributes := #[] }, { accessFlags := 24, nameIndex := 430, descriptorIndex := 62, attributes := #[] }, { accessFlags := 4120, nameIndex := 46, descriptorIndex := 47, attributes := #[] }])
  fields := #[{ name := "HI_BYTE_SHIFT", type := .int, accessFlags := 26, slot := 0, constantValue := 0 }, { name := "LO_BYTE_SHIFT", type := .int, accessFlags := 26, slot := 1, constantValue := 0 }, { name := "MAX_LENGTH", type := .int, accessFlags := 24, slot := 2, constantValue := 0 }, { name := "$assertionsDisabled", type := .boolean, accessFlags := 4120, slot := 3, constantValue := 0 }]
  methods := #[k8m0, k8m1, k8m2, k8m3, k8m4, k8m5, k8m6, k8m7, k8m8, k8m9, k8m10, k8m11]
  instanceTypes := #[]
  staticTypes := #[.int, .int, .int, .boolean]
  resolved := Array.replicate 635 none
  statics := some 1 }

def pool9 : Array CpInfo := pool [(2, .class_ 4), (1, u "java/lang/Object"), (0, u "<init>"), (0, u "()V"), (0, .class_ 8), (0, u "java/lang/Record")] 13

def k9m0 : Method := { name := "<init>", desc := "()V", sig := { parameters := [], returnType := none }, accessFlags := 4, code := none }
/-- java/lang/Record -/
def k9 : Class := { plain "java/lang/Record" (some 0) with
  accessFlags := 1057
  interfaces := #[]
  cf := some (fileOf pool9 7 #[] #[{ accessFlags := 4, nameIndex := 5, descriptorIndex := 6, attributes := #[] }] 1057 2 #[] #[])
  fields := #[]
  methods := #[k9m0]
  instanceTypes := #[]
  staticTypes := #[]
  resolved := Array.replicate 22 none
  statics := none }

def pool10 : Array CpInfo := pool [(2, .class_ 4), (1, u "java/lang/Record"), (3, u "name"), (7, .class_ 18), (1, u "com/example/lossfall/lossfall/model/CertificateClass"), (0, u "isValidName"), (0, u "(Ljava/lang/String;)Z"), (18, u "Ljava/lang/String;"), (2, u "balance"), (0, u "J"), (0, .methodref 45 46), (0, .class_ 47), (0, .nameAndType 48 49), (0, u "java/lang/String"), (0, u "isEmpty"), (0, u "()Z"), (0, .methodref 45 51), (0, .nameAndType 52 53), (0, u "length"), (0, u "()I"), (0, .methodref 45 55), (0, .nameAndType 56 57), (0, u "charAt"), (0, u "(I)C"), (12, u "MAX_NAME_LENGTH"), (0, u "I")] 41

def k10c0 : Code := { maxStack := 2, maxLocals := 4, code := prog_26_method_2_code, exceptionTable := #[], attributes := #[] }
def k10m0 : Method := { name := "isValidName", desc := "(Ljava/lang/String;)Z", sig := { parameters := [(.object "java/lang/String")], returnType := some .boolean }, accessFlags := 9, code := some k10c0 }
/-- com/example/lossfall/lossfall/model/CertificateClass -/
def k10 : Class := { plain "com/example/lossfall/lossfall/model/CertificateClass" (some 9) with
  accessFlags := 49
  interfaces := #[]
  cf := some (fileOf pool10 16 #[] #[{ accessFlags := 9, nameIndex := 19, descriptorIndex := 20, attributes := #[] }] 49 2 #[] #[{ accessFlags := 18, nameIndex := 8, descriptorIndex := 39, attributes := #[] }, { accessFlags := 18, nameIndex := 42, descriptorIndex := 43, attributes := #[] }, { accessFlags := 26, nameIndex := 70, descriptorIndex := 71, attributes := #[] }])
  fields := #[{ name := "name", type := (.object "java/lang/String"), accessFlags := 18, slot := 0, constantValue := 0 }, { name := "balance", type := .long, accessFlags := 18, slot := 1, constantValue := 0 }, { name := "MAX_NAME_LENGTH", type := .int, accessFlags := 26, slot := 0, constantValue := 0 }]
  methods := #[k10m0]
  instanceTypes := #[(.object "java/lang/String"), .long]
  staticTypes := #[.int]
  resolved := Array.replicate 113 none
  statics := none }

def pool11 : Array CpInfo := pool [(1, .class_ 2), (0, u "java/lang/String"), (1, .class_ 6), (1, u "java/lang/Object"), (0, u "<init>"), (0, u "()V"), (0, .methodref 1 10), (0, .nameAndType 11 12), (0, u "checkIndex"), (0, u "(II)V"), (1, .class_ 16), (1, u "java/lang/StringLatin1"), (36, u "([BI)C"), (67, u "$assertionsDisabled"), (0, u "Z"), (98, .class_ 223), (1, u "java/lang/StringLatin1$LinesSpliterator"), (28, u "charAt"), (137, .class_ 391), (0, u "java/lang/StringLatin1$CharsSpliterator")] 3

def k11m0 : Method := { name := "<init>", desc := "()V", sig := { parameters := [], returnType := none }, accessFlags := 0, code := none }
def k11c1 : Code := { maxStack := 2, maxLocals := 2, code := jdk_43_method_2_code, exceptionTable := #[], attributes := #[] }
def k11m1 : Method := { name := "charAt", desc := "([BI)C", sig := { parameters := [(.array .byte), .int], returnType := some .char }, accessFlags := 9, code := some k11c1 }
/-- java/lang/StringLatin1 -/
def k11 : Class := { plain "java/lang/StringLatin1" (some 0) with
  accessFlags := 48
  interfaces := #[]
  cf := some (fileOf pool11 14 #[.nestMembers #[390, 221]] #[{ accessFlags := 0, nameIndex := 7, descriptorIndex := 8, attributes := #[] }, { accessFlags := 9, nameIndex := 252, descriptorIndex := 53, attributes := #[] }] 48 4 #[] #[{ accessFlags := 4120, nameIndex := 121, descriptorIndex := 122, attributes := #[] }])
  fields := #[{ name := "$assertionsDisabled", type := .boolean, accessFlags := 4120, slot := 0, constantValue := 0 }]
  methods := #[k11m0, k11m1]
  instanceTypes := #[]
  staticTypes := #[.boolean]
  resolved := Array.replicate 395 none
  statics := none }

def pool12 : Array CpInfo := pool [(2, .class_ 4), (1, u "java/lang/Object"), (0, u "<init>"), (0, u "()V"), (17, .class_ 26), (1, u "jdk/internal/util/Preconditions"), (6, u "checkIndex"), (21, .class_ 56), (0, u "jdk/internal/util/Preconditions$4"), (57, .class_ 115), (0, u "jdk/internal/util/Preconditions$1"), (7, u "SIOOBE_FORMATTER"), (0, u "Ljava/util/function/BiFunction;"), (0, .class_ 126), (0, u "jdk/internal/util/Preconditions$2"), (3, u "AIOOBE_FORMATTER"), (0, .class_ 132), (0, u "jdk/internal/util/Preconditions$3"), (3, u "IOOBE_FORMATTER"), (41, u "(IILjava/util/function/BiFunction;)I")] 15

def k12m0 : Method := { name := "<init>", desc := "()V", sig := { parameters := [], returnType := none }, accessFlags := 1, code := none }
def k12c1 : Code := { maxStack := 3, maxLocals := 3, code := jdk_41_method_11_code, exceptionTable := #[], attributes := #[] }
def k12m1 : Method := { name := "checkIndex", desc := "(IILjava/util/function/BiFunction;)I", sig := { parameters := [.int, .int, (.object "java/util/function/BiFunction")], returnType := some .int }, accessFlags := 9, code := some k12c1 }
/-- jdk/internal/util/Preconditions -/
def k12 : Class := { plain "jdk/internal/util/Preconditions" (some 0) with
  accessFlags := 33
  interfaces := #[]
  cf := some (fileOf pool12 24 #[.nestMembers #[55, 131, 125, 114]] #[{ accessFlags := 1, nameIndex := 5, descriptorIndex := 6, attributes := #[] }, { accessFlags := 9, nameIndex := 33, descriptorIndex := 178, attributes := #[] }] 33 2 #[] #[{ accessFlags := 25, nameIndex := 123, descriptorIndex := 124, attributes := #[] }, { accessFlags := 25, nameIndex := 130, descriptorIndex := 124, attributes := #[] }, { accessFlags := 25, nameIndex := 136, descriptorIndex := 124, attributes := #[] }])
  fields := #[{ name := "SIOOBE_FORMATTER", type := (.object "java/util/function/BiFunction"), accessFlags := 25, slot := 0, constantValue := 0 }, { name := "AIOOBE_FORMATTER", type := (.object "java/util/function/BiFunction"), accessFlags := 25, slot := 1, constantValue := 0 }, { name := "IOOBE_FORMATTER", type := (.object "java/util/function/BiFunction"), accessFlags := 25, slot := 2, constantValue := 0 }]
  methods := #[k12m0, k12m1]
  instanceTypes := #[]
  staticTypes := #[(.object "java/util/function/BiFunction"), (.object "java/util/function/BiFunction"), (.object "java/util/function/BiFunction")]
  resolved := Array.replicate 194 none
  statics := some 2 }

def pool13 : Array CpInfo := pool [(9, u "<init>"), (6, .class_ 18), (1, u "java/lang/Object"), (0, u "()V"), (1, .class_ 23), (1, u "jdk/internal/util/ArraysSupport"), (0, u "LOG2_ARRAY_LONG_INDEX_SCALE"), (0, u "I"), (2, u "U"), (0, u "Ljdk/internal/misc/Unsafe;"), (8, u "BIG_ENDIAN"), (0, u "Z"), (8, u "LOG2_BYTE_BIT_SIZE"), (4, u "LOG2_ARRAY_INT_INDEX_SCALE"), (54, u "JLA"), (0, u "Ljdk/internal/access/JavaLangAccess;"), (11, u "LOG2_ARRAY_BOOLEAN_INDEX_SCALE"), (9, u "LOG2_ARRAY_BYTE_INDEX_SCALE"), (5, u "LOG2_ARRAY_CHAR_INDEX_SCALE"), (5, u "LOG2_ARRAY_SHORT_INDEX_SCALE"), (18, u "LOG2_ARRAY_FLOAT_INDEX_SCALE"), (24, u "LOG2_ARRAY_DOUBLE_INDEX_SCALE"), (89, u "T_BOOLEAN"), (2, u "T_CHAR"), (1, u "T_FLOAT"), (1, u "T_DOUBLE"), (1, u "T_BYTE"), (1, u "T_SHORT"), (1, u "T_INT"), (1, u "T_LONG"), (1, u "SOFT_MAX_ARRAY_LENGTH")] 83

def k13m0 : Method := { name := "<init>", desc := "()V", sig := { parameters := [], returnType := none }, accessFlags := 2, code := none }
/-- jdk/internal/util/ArraysSupport -/
def k13 : Class := { plain "jdk/internal/util/ArraysSupport" (some 0) with
  accessFlags := 33
  interfaces := #[]
  cf := some (fileOf pool13 21 #[] #[{ accessFlags := 2, nameIndex := 9, descriptorIndex := 19, attributes := #[] }] 33 16 #[] #[{ accessFlags := 24, nameIndex := 28, descriptorIndex := 29, attributes := #[] }, { accessFlags := 26, nameIndex := 38, descriptorIndex := 39, attributes := #[] }, { accessFlags := 25, nameIndex := 121, descriptorIndex := 25, attributes := #[] }, { accessFlags := 25, nameIndex := 131, descriptorIndex := 25, attributes := #[] }, { accessFlags := 25, nameIndex := 137, descriptorIndex := 25, attributes := #[] }, { accessFlags := 25, nameIndex := 143, descriptorIndex := 25, attributes := #[] }, { accessFlags := 25, nameIndex := 53, descriptorIndex := 25, attributes := #[] }, { accessFlags := 25, nameIndex := 24, descriptorIndex := 25, attributes := #[] }, { accessFlags := 25, nameIndex := 162, descriptorIndex := 25, attributes := #[] }, { accessFlags := 25, nameIndex := 187, descriptorIndex := 25, attributes := #[] }, { accessFlags := 26, nameIndex := 48, descriptorIndex := 25, attributes := #[] }, { accessFlags := 25, nameIndex := 277, descriptorIndex := 25, attributes := #[] }, { accessFlags := 25, nameIndex := 280, descriptorIndex := 25, attributes := #[] }, { accessFlags := 25, nameIndex := 282, descriptorIndex := 25, attributes := #[] }, { accessFlags := 25, nameIndex := 284, descriptorIndex := 25, attributes := #[] }, { accessFlags := 25, nameIndex := 286, descriptorIndex := 25, attributes := #[] }, { accessFlags := 25, nameIndex := 288, descriptorIndex := 25, attributes := #[] }, { accessFlags := 25, nameIndex := 290, descriptorIndex := 25, attributes := #[] }, { accessFlags := 25, nameIndex := 292, descriptorIndex := 25, attributes := #[] }, { accessFlags := 26, nameIndex := 108, descriptorIndex := 109, attributes := #[] }, { accessFlags := 25, nameIndex := 294, descriptorIndex := 25, attributes := #[] }])
  fields := #[{ name := "U", type := (.object "jdk/internal/misc/Unsafe"), accessFlags := 24, slot := 0, constantValue := 0 }, { name := "BIG_ENDIAN", type := .boolean, accessFlags := 26, slot := 1, constantValue := 0 }, { name := "LOG2_ARRAY_BOOLEAN_INDEX_SCALE", type := .int, accessFlags := 25, slot := 2, constantValue := 0 }, { name := "LOG2_ARRAY_BYTE_INDEX_SCALE", type := .int, accessFlags := 25, slot := 3, constantValue := 0 }, { name := "LOG2_ARRAY_CHAR_INDEX_SCALE", type := .int, accessFlags := 25, slot := 4, constantValue := 0 }, { name := "LOG2_ARRAY_SHORT_INDEX_SCALE", type := .int, accessFlags := 25, slot := 5, constantValue := 0 }, { name := "LOG2_ARRAY_INT_INDEX_SCALE", type := .int, accessFlags := 25, slot := 6, constantValue := 0 }, { name := "LOG2_ARRAY_LONG_INDEX_SCALE", type := .int, accessFlags := 25, slot := 7, constantValue := 0 }, { name := "LOG2_ARRAY_FLOAT_INDEX_SCALE", type := .int, accessFlags := 25, slot := 8, constantValue := 0 }, { name := "LOG2_ARRAY_DOUBLE_INDEX_SCALE", type := .int, accessFlags := 25, slot := 9, constantValue := 0 }, { name := "LOG2_BYTE_BIT_SIZE", type := .int, accessFlags := 26, slot := 10, constantValue := 0 }, { name := "T_BOOLEAN", type := .int, accessFlags := 25, slot := 11, constantValue := 0 }, { name := "T_CHAR", type := .int, accessFlags := 25, slot := 12, constantValue := 0 }, { name := "T_FLOAT", type := .int, accessFlags := 25, slot := 13, constantValue := 0 }, { name := "T_DOUBLE", type := .int, accessFlags := 25, slot := 14, constantValue := 0 }, { name := "T_BYTE", type := .int, accessFlags := 25, slot := 15, constantValue := 0 }, { name := "T_SHORT", type := .int, accessFlags := 25, slot := 16, constantValue := 0 }, { name := "T_INT", type := .int, accessFlags := 25, slot := 17, constantValue := 0 }, { name := "T_LONG", type := .int, accessFlags := 25, slot := 18, constantValue := 0 }, { name := "JLA", type := (.object "jdk/internal/access/JavaLangAccess"), accessFlags := 26, slot := 19, constantValue := 0 }, { name := "SOFT_MAX_ARRAY_LENGTH", type := .int, accessFlags := 25, slot := 20, constantValue := 0 }]
  methods := #[k13m0]
  instanceTypes := #[]
  staticTypes := #[(.object "jdk/internal/misc/Unsafe"), .boolean, .int, .int, .int, .int, .int, .int, .int, .int, .int, .int, .int, .int, .int, .int, .int, .int, .int, (.object "jdk/internal/access/JavaLangAccess"), .int]
  resolved := Array.replicate 378 none
  statics := none }

def pool14 : Array CpInfo := pool [(1, u "java/lang/Cloneable"), (0, .class_ 1), (0, u "java/lang/Object"), (0, .class_ 3)] 3

/-- java/lang/Cloneable -/
def k14 : Class := { plain "java/lang/Cloneable" (some 0) with
  accessFlags := 1537
  interfaces := #[]
  cf := some (fileOf pool14 2 #[] #[] 1537 4 #[] #[])
  fields := #[]
  methods := #[]
  instanceTypes := #[]
  staticTypes := #[]
  resolved := Array.replicate 8 none
  statics := none }

/-- the primitive byte -/
def k15 : Class := { plain "byte" none with kind := .primitive 'B', accessFlags := 0x411 }
/-- [B -/
def k16 : Class := { plain "[B" (some 0) with kind := .array 15 .byte, interfaces := #[14, 2], accessFlags := 1041 }

/-- the primitive char -/
def k17 : Class := { plain "char" none with kind := .primitive 'C', accessFlags := 0x411 }
/-- [C -/
def k18 : Class := { plain "[C" (some 0) with kind := .array 17 .char, interfaces := #[14, 2], accessFlags := 1041 }

/-- the primitive int -/
def k19 : Class := { plain "int" none with kind := .primitive 'I', accessFlags := 0x411 }
/-- [I -/
def k20 : Class := { plain "[I" (some 0) with kind := .array 19 .int, interfaces := #[14, 2], accessFlags := 1041 }

def heap : Heap := #[{ cls := 7, slots := #[.long 0, .int 1, .null, .int 0, .null, .int 0, .int 0], vm := .statics 7 },
  { cls := 8, slots := #[.int 0, .int 8, .int 0, .int 1], vm := .statics 8 },
  { cls := 12, slots := #[.null, .null, .null], vm := .statics 12 }]
def classes : Array Class := #[k0, k1, k2, k3, k4, k5, k6, k7, k8, k9, k10, k11, k12, k13, k14, k15, k16, k17, k18, k19, k20]
def interned : List (Array UInt16 × Addr) := []
def slotsUsed : Nat := 14
def theMethod : MethodId := ⟨1, 1⟩
def args0 : Array Value := #[.int 65, .int 66, .int 67, .int 1]
def aboutOver (below : List Frame) : State where
  vm := { classes := classes, interned := interned.toArray }
  heap := heap
  slotsUsed := slotsUsed
  threads := #[{ frames := .invoking theMethod args0 :: below }]
def below0 : List Frame := [.native { method := ⟨0, 0⟩, args := #[] }]
def about1 : State := aboutOver below0
def p0 : Program := .bare "" "" ""
def e0 : Env := launch0.env 0 0 0
theorem w_frames : about1.frames = Frame.invoking theMethod args0 :: below0 := rfl
set_option maxRecDepth 65536 in
theorem w_args : argsFit about1.vm theMethod args0 = true := by decide +kernel
set_option maxRecDepth 65536 in
theorem w_heap : heapFits about1 = true := by decide +kernel
set_option maxRecDepth 65536 in
theorem w_runnable : about1.curStatus? = some .runnable := by decide +kernel
set_option maxRecDepth 65536 in
theorem w_alone : about1.alone = true := by decide +kernel
set_option maxRecDepth 65536 in
theorem w_named : about1.methodNamed? x = some theMethod := by decide +kernel
set_option maxRecDepth 65536 in
theorem w_hears : about1.hears theMethod below0 = true := by decide +kernel
set_option maxRecDepth 65536 in
theorem w_ripe : about1.ripe theMethod args0 below0 = true := by decide +kernel
theorem w_running : about1.status = .running := rfl
set_option maxRecDepth 65536 in
theorem w_room : about1.hasRoom e0.platform room_1 = true :=
  launch0.hasRoom_least _ room_1 (by decide +kernel) (by decide +kernel) (by decide +kernel) (by decide +kernel) (by decide +kernel) (by decide +kernel)
theorem allAtoms_all (ts : List Jvm.Cond) (a : Array Jvm.Value) (st : Jvm.State) : (allAtoms ts).before a st = ts.all (fun c => c.before a st) := by
  induction ts with
  | nil => rfl
  | cons c t ih =>
    show (Jvm.Cond.and c (allAtoms t)).before a st = _
    rw [Jvm.Cond.before_and, ih, List.all_cons]
def words1 : List Jvm.Cond := Jvm.Cond.code x code maxLocals ret :: tables_1
/-- a 'code' word, met by the world's own term for the bytes: nothing is compared byte by byte -/
theorem code_word {y : MethodName} {bytes : ByteArray} {mx : Nat} {rt : Option FieldType} {a : Array Value} {s : State} {m : MethodId} {meth : Method} {c : Code} (h1 : s.methodNamed? y = some m) (h2 : s.vm.method? m = some meth) (h3 : meth.code = some c) (h4 : c.code = bytes)
    (h5 : (c.maxLocals == mx && c.exceptionTable.isEmpty && decide (c.maxStack ≤ mostOperands) && decide (meth.sig.returnType = rt) && !meth.locks && decide (parseMethodDescriptor y.desc = some meth.sig)) = true) : (Jvm.Cond.code y bytes mx rt).before a s = true := by
  simp only [Bool.and_eq_true, beq_iff_eq, Bool.not_eq_true', decide_eq_true_eq] at h5
  obtain ⟨⟨⟨⟨⟨g1, g2⟩, g3⟩, g4⟩, g5⟩, g6⟩ := h5
  simp [Cond.before, Cond.holds, Cond.value, h1, h2, h3, h4, g1, g2, g3, g4, g5, g6]
def isCode : Jvm.Cond → Bool
  | .code _ _ _ _ => true
  | _ => false
theorem all_split {L : List Jvm.Cond} {P : Jvm.Cond → Bool} (h1 : L.all (fun c => isCode c || P c) = true) (h2 : ∀ c ∈ L.filter isCode, P c = true) : L.all P = true := by
  refine List.all_eq_true.mpr fun c hc => ?_
  have h := List.all_eq_true.mp h1 c hc
  rcases Bool.eq_false_or_eq_true (isCode c) with hi | hi
  · exact h2 c (List.mem_filter.mpr ⟨hc, hi⟩)
  · simpa [hi] using h
set_option maxRecDepth 65536 in
theorem w_c0 : (Jvm.Cond.code x code maxLocals ret).before args0 about1 = true := code_word (m := ⟨1, 1⟩) (meth := k1m1) (c := k1c1) (by decide +kernel) rfl rfl rfl (by decide +kernel)
set_option maxRecDepth 65536 in
theorem w_c1 : (Jvm.Cond.code ({ cls := "com/example/lossfall/lossfall/model/CertificateClassIsValidNamePinLaw", name := "ok", desc := "(C)Z" } : Jvm.MethodName) method_3_code (4 : Nat) (Option.some Jvm.ClassFile.FieldType.boolean)).before args0 about1 = true := code_word (m := ⟨1, 2⟩) (meth := k1m2) (c := k1c2) (by decide +kernel) rfl rfl rfl (by decide +kernel)
set_option maxRecDepth 65536 in
theorem w_c2 : (Jvm.Cond.code ({ cls := "java/lang/String", name := "<init>", desc := "([C)V" } : Jvm.MethodName) jdk_42_method_3_code (2 : Nat) (Option.none : Option Jvm.ClassFile.FieldType)).before args0 about1 = true := code_word (m := ⟨7, 1⟩) (meth := k7m1) (c := k7c1) (by decide +kernel) rfl rfl rfl (by decide +kernel)
set_option maxRecDepth 65536 in
theorem w_c3 : (Jvm.Cond.code ({ cls := "java/lang/String", name := "<init>", desc := "([CIILjava/lang/Void;)V" } : Jvm.MethodName) jdk_42_method_149_code (6 : Nat) (Option.none : Option Jvm.ClassFile.FieldType)).before args0 about1 = true := code_word (m := ⟨7, 5⟩) (meth := k7m5) (c := k7c5) (by decide +kernel) rfl rfl rfl (by decide +kernel)
set_option maxRecDepth 65536 in
theorem w_c4 : (Jvm.Cond.code ({ cls := "java/lang/Object", name := "<init>", desc := "()V" } : Jvm.MethodName) object_method_1_code (1 : Nat) (Option.none : Option Jvm.ClassFile.FieldType)).before args0 about1 = true := code_word (m := ⟨0, 0⟩) (meth := k0m0) (c := k0c0) (by decide +kernel) rfl rfl rfl (by decide +kernel)
set_option maxRecDepth 65536 in
theorem w_c5 : (Jvm.Cond.code ({ cls := "java/lang/StringUTF16", name := "compress", desc := "([CII)[B" } : Jvm.MethodName) jdk_52_method_16_code (6 : Nat) (Option.some (Jvm.ClassFile.FieldType.array Jvm.ClassFile.FieldType.byte))).before args0 about1 = true := code_word (m := ⟨8, 8⟩) (meth := k8m8) (c := k8c8) (by decide +kernel) rfl rfl rfl (by decide +kernel)
set_option maxRecDepth 65536 in
theorem w_c6 : (Jvm.Cond.code ({ cls := "java/lang/StringUTF16", name := "compress", desc := "([CI[BII)I" } : Jvm.MethodName) jdk_52_method_21_code (7 : Nat) (Option.some Jvm.ClassFile.FieldType.int)).before args0 about1 = true := code_word (m := ⟨8, 9⟩) (meth := k8m9) (c := k8c9) (by decide +kernel) rfl rfl rfl (by decide +kernel)
set_option maxRecDepth 65536 in
theorem w_c7 : (Jvm.Cond.code ({ cls := "java/lang/StringUTF16", name := "coderFromArrayLen", desc := "([BI)B" } : Jvm.MethodName) jdk_52_method_15_code (2 : Nat) (Option.some Jvm.ClassFile.FieldType.byte)).before args0 about1 = true := code_word (m := ⟨8, 7⟩) (meth := k8m7) (c := k8c7) (by decide +kernel) rfl rfl rfl (by decide +kernel)
set_option maxRecDepth 65536 in
theorem w_c8 : (Jvm.Cond.code ({ cls := "com/example/lossfall/lossfall/model/CertificateClass", name := "isValidName", desc := "(Ljava/lang/String;)Z" } : Jvm.MethodName) prog_26_method_2_code (4 : Nat) (Option.some Jvm.ClassFile.FieldType.boolean)).before args0 about1 = true := code_word (m := ⟨10, 0⟩) (meth := k10m0) (c := k10c0) (by decide +kernel) rfl rfl rfl (by decide +kernel)
set_option maxRecDepth 65536 in
theorem w_c9 : (Jvm.Cond.code ({ cls := "java/lang/String", name := "isEmpty", desc := "()Z" } : Jvm.MethodName) jdk_42_method_55_code (1 : Nat) (Option.some Jvm.ClassFile.FieldType.boolean)).before args0 about1 = true := code_word (m := ⟨7, 3⟩) (meth := k7m3) (c := k7c3) (by decide +kernel) rfl rfl rfl (by decide +kernel)
set_option maxRecDepth 65536 in
theorem w_c10 : (Jvm.Cond.code ({ cls := "java/lang/String", name := "length", desc := "()I" } : Jvm.MethodName) jdk_42_method_54_code (1 : Nat) (Option.some Jvm.ClassFile.FieldType.int)).before args0 about1 = true := code_word (m := ⟨7, 2⟩) (meth := k7m2) (c := k7c2) (by decide +kernel) rfl rfl rfl (by decide +kernel)
set_option maxRecDepth 65536 in
theorem w_c11 : (Jvm.Cond.code ({ cls := "java/lang/String", name := "coder", desc := "()B" } : Jvm.MethodName) jdk_42_method_152_code (1 : Nat) (Option.some Jvm.ClassFile.FieldType.byte)).before args0 about1 = true := code_word (m := ⟨7, 6⟩) (meth := k7m6) (c := k7c6) (by decide +kernel) rfl rfl rfl (by decide +kernel)
set_option maxRecDepth 65536 in
theorem w_c12 : (Jvm.Cond.code ({ cls := "java/lang/String", name := "charAt", desc := "(I)C" } : Jvm.MethodName) jdk_42_method_56_code (2 : Nat) (Option.some Jvm.ClassFile.FieldType.char)).before args0 about1 = true := code_word (m := ⟨7, 4⟩) (meth := k7m4) (c := k7c4) (by decide +kernel) rfl rfl rfl (by decide +kernel)
set_option maxRecDepth 65536 in
theorem w_c13 : (Jvm.Cond.code ({ cls := "java/lang/String", name := "isLatin1", desc := "()Z" } : Jvm.MethodName) jdk_42_method_154_code (1 : Nat) (Option.some Jvm.ClassFile.FieldType.boolean)).before args0 about1 = true := code_word (m := ⟨7, 7⟩) (meth := k7m7) (c := k7c7) (by decide +kernel) rfl rfl rfl (by decide +kernel)
set_option maxRecDepth 65536 in
theorem w_c14 : (Jvm.Cond.code ({ cls := "java/lang/StringLatin1", name := "charAt", desc := "([BI)C" } : Jvm.MethodName) jdk_43_method_2_code (2 : Nat) (Option.some Jvm.ClassFile.FieldType.char)).before args0 about1 = true := code_word (m := ⟨11, 1⟩) (meth := k11m1) (c := k11c1) (by decide +kernel) rfl rfl rfl (by decide +kernel)
set_option maxRecDepth 65536 in
theorem w_c15 : (Jvm.Cond.code ({ cls := "java/lang/String", name := "checkIndex", desc := "(II)V" } : Jvm.MethodName) jdk_42_method_155_code (2 : Nat) (Option.none : Option Jvm.ClassFile.FieldType)).before args0 about1 = true := code_word (m := ⟨7, 8⟩) (meth := k7m8) (c := k7c8) (by decide +kernel) rfl rfl rfl (by decide +kernel)
set_option maxRecDepth 65536 in
theorem w_c16 : (Jvm.Cond.code ({ cls := "jdk/internal/util/Preconditions", name := "checkIndex", desc := "(IILjava/util/function/BiFunction;)I" } : Jvm.MethodName) jdk_41_method_11_code (3 : Nat) (Option.some Jvm.ClassFile.FieldType.int)).before args0 about1 = true := code_word (m := ⟨12, 1⟩) (meth := k12m1) (c := k12c1) (by decide +kernel) rfl rfl rfl (by decide +kernel)
set_option maxRecDepth 65536 in
theorem w_c17 : (Jvm.Cond.code ({ cls := "com/example/lossfall/lossfall/model/CertificateClassIsValidNamePinLaw", name := "base", desc := "(I)[C" } : Jvm.MethodName) method_4_code (1 : Nat) (Option.some (Jvm.ClassFile.FieldType.array Jvm.ClassFile.FieldType.char))).before args0 about1 = true := code_word (m := ⟨1, 3⟩) (meth := k1m3) (c := k1c3) (by decide +kernel) rfl rfl rfl (by decide +kernel)
set_option maxRecDepth 65536 in
theorem w_c18 : (Jvm.Cond.code ({ cls := "java/lang/StringUTF16", name := "toBytes", desc := "([CII)[B" } : Jvm.MethodName) jdk_52_method_14_code (5 : Nat) (Option.some (Jvm.ClassFile.FieldType.array Jvm.ClassFile.FieldType.byte))).before args0 about1 = true := code_word (m := ⟨8, 6⟩) (meth := k8m6) (c := k8c6) (by decide +kernel) rfl rfl rfl (by decide +kernel)
set_option maxRecDepth 65536 in
theorem w_c19 : (Jvm.Cond.code ({ cls := "java/lang/StringUTF16", name := "newBytesFor", desc := "(I)[B" } : Jvm.MethodName) jdk_52_method_2_code (1 : Nat) (Option.some (Jvm.ClassFile.FieldType.array Jvm.ClassFile.FieldType.byte))).before args0 about1 = true := code_word (m := ⟨8, 1⟩) (meth := k8m1) (c := k8c1) (by decide +kernel) rfl rfl rfl (by decide +kernel)
set_option maxRecDepth 65536 in
theorem w_c20 : (Jvm.Cond.code ({ cls := "java/lang/StringUTF16", name := "newBytesLength", desc := "(I)I" } : Jvm.MethodName) jdk_52_method_3_code (1 : Nat) (Option.some Jvm.ClassFile.FieldType.int)).before args0 about1 = true := code_word (m := ⟨8, 2⟩) (meth := k8m2) (c := k8c2) (by decide +kernel) rfl rfl rfl (by decide +kernel)
set_option maxRecDepth 65536 in
theorem w_c21 : (Jvm.Cond.code ({ cls := "java/lang/StringUTF16", name := "putChar", desc := "([BII)V" } : Jvm.MethodName) jdk_52_method_4_code (3 : Nat) (Option.none : Option Jvm.ClassFile.FieldType)).before args0 about1 = true := code_word (m := ⟨8, 3⟩) (meth := k8m3) (c := k8c3) (by decide +kernel) rfl rfl rfl (by decide +kernel)
set_option maxRecDepth 65536 in
theorem w_c22 : (Jvm.Cond.code ({ cls := "java/lang/StringUTF16", name := "getChar", desc := "([BI)C" } : Jvm.MethodName) jdk_52_method_5_code (2 : Nat) (Option.some Jvm.ClassFile.FieldType.char)).before args0 about1 = true := code_word (m := ⟨8, 4⟩) (meth := k8m4) (c := k8c4) (by decide +kernel) rfl rfl rfl (by decide +kernel)
set_option maxRecDepth 65536 in
theorem w_c23 : (Jvm.Cond.code ({ cls := "java/lang/StringUTF16", name := "charAt", desc := "([BI)C" } : Jvm.MethodName) jdk_52_method_83_code (2 : Nat) (Option.some Jvm.ClassFile.FieldType.char)).before args0 about1 = true := code_word (m := ⟨8, 10⟩) (meth := k8m10) (c := k8c10) (by decide +kernel) rfl rfl rfl (by decide +kernel)
set_option maxRecDepth 65536 in
theorem w_c24 : (Jvm.Cond.code ({ cls := "java/lang/StringUTF16", name := "checkIndex", desc := "(I[B)V" } : Jvm.MethodName) jdk_52_method_91_code (2 : Nat) (Option.none : Option Jvm.ClassFile.FieldType)).before args0 about1 = true := code_word (m := ⟨8, 11⟩) (meth := k8m11) (c := k8c11) (by decide +kernel) rfl rfl rfl (by decide +kernel)
set_option maxRecDepth 65536 in
theorem w_c25 : (Jvm.Cond.code ({ cls := "java/lang/StringUTF16", name := "length", desc := "([B)I" } : Jvm.MethodName) jdk_52_method_6_code (1 : Nat) (Option.some Jvm.ClassFile.FieldType.int)).before args0 about1 = true := code_word (m := ⟨8, 5⟩) (meth := k8m5) (c := k8c5) (by decide +kernel) rfl rfl rfl (by decide +kernel)
def codes1 : List Jvm.Cond := [Jvm.Cond.code x code maxLocals ret, Jvm.Cond.code ({ cls := "com/example/lossfall/lossfall/model/CertificateClassIsValidNamePinLaw", name := "ok", desc := "(C)Z" } : Jvm.MethodName) method_3_code (4 : Nat) (Option.some Jvm.ClassFile.FieldType.boolean), Jvm.Cond.code ({ cls := "java/lang/String", name := "<init>", desc := "([C)V" } : Jvm.MethodName) jdk_42_method_3_code (2 : Nat) (Option.none : Option Jvm.ClassFile.FieldType), Jvm.Cond.code ({ cls := "java/lang/String", name := "<init>", desc := "([CIILjava/lang/Void;)V" } : Jvm.MethodName) jdk_42_method_149_code (6 : Nat) (Option.none : Option Jvm.ClassFile.FieldType), Jvm.Cond.code ({ cls := "java/lang/Object", name := "<init>", desc := "()V" } : Jvm.MethodName) object_method_1_code (1 : Nat) (Option.none : Option Jvm.ClassFile.FieldType), Jvm.Cond.code ({ cls := "java/lang/StringUTF16", name := "compress", desc := "([CII)[B" } : Jvm.MethodName) jdk_52_method_16_code (6 : Nat) (Option.some (Jvm.ClassFile.FieldType.array Jvm.ClassFile.FieldType.byte)), Jvm.Cond.code ({ cls := "java/lang/StringUTF16", name := "compress", desc := "([CI[BII)I" } : Jvm.MethodName) jdk_52_method_21_code (7 : Nat) (Option.some Jvm.ClassFile.FieldType.int), Jvm.Cond.code ({ cls := "java/lang/StringUTF16", name := "coderFromArrayLen", desc := "([BI)B" } : Jvm.MethodName) jdk_52_method_15_code (2 : Nat) (Option.some Jvm.ClassFile.FieldType.byte), Jvm.Cond.code ({ cls := "com/example/lossfall/lossfall/model/CertificateClass", name := "isValidName", desc := "(Ljava/lang/String;)Z" } : Jvm.MethodName) prog_26_method_2_code (4 : Nat) (Option.some Jvm.ClassFile.FieldType.boolean), Jvm.Cond.code ({ cls := "java/lang/String", name := "isEmpty", desc := "()Z" } : Jvm.MethodName) jdk_42_method_55_code (1 : Nat) (Option.some Jvm.ClassFile.FieldType.boolean), Jvm.Cond.code ({ cls := "java/lang/String", name := "length", desc := "()I" } : Jvm.MethodName) jdk_42_method_54_code (1 : Nat) (Option.some Jvm.ClassFile.FieldType.int), Jvm.Cond.code ({ cls := "java/lang/String", name := "coder", desc := "()B" } : Jvm.MethodName) jdk_42_method_152_code (1 : Nat) (Option.some Jvm.ClassFile.FieldType.byte), Jvm.Cond.code ({ cls := "java/lang/String", name := "charAt", desc := "(I)C" } : Jvm.MethodName) jdk_42_method_56_code (2 : Nat) (Option.some Jvm.ClassFile.FieldType.char), Jvm.Cond.code ({ cls := "java/lang/String", name := "isLatin1", desc := "()Z" } : Jvm.MethodName) jdk_42_method_154_code (1 : Nat) (Option.some Jvm.ClassFile.FieldType.boolean), Jvm.Cond.code ({ cls := "java/lang/StringLatin1", name := "charAt", desc := "([BI)C" } : Jvm.MethodName) jdk_43_method_2_code (2 : Nat) (Option.some Jvm.ClassFile.FieldType.char), Jvm.Cond.code ({ cls := "java/lang/String", name := "checkIndex", desc := "(II)V" } : Jvm.MethodName) jdk_42_method_155_code (2 : Nat) (Option.none : Option Jvm.ClassFile.FieldType), Jvm.Cond.code ({ cls := "jdk/internal/util/Preconditions", name := "checkIndex", desc := "(IILjava/util/function/BiFunction;)I" } : Jvm.MethodName) jdk_41_method_11_code (3 : Nat) (Option.some Jvm.ClassFile.FieldType.int), Jvm.Cond.code ({ cls := "com/example/lossfall/lossfall/model/CertificateClassIsValidNamePinLaw", name := "base", desc := "(I)[C" } : Jvm.MethodName) method_4_code (1 : Nat) (Option.some (Jvm.ClassFile.FieldType.array Jvm.ClassFile.FieldType.char)), Jvm.Cond.code ({ cls := "java/lang/StringUTF16", name := "toBytes", desc := "([CII)[B" } : Jvm.MethodName) jdk_52_method_14_code (5 : Nat) (Option.some (Jvm.ClassFile.FieldType.array Jvm.ClassFile.FieldType.byte)), Jvm.Cond.code ({ cls := "java/lang/StringUTF16", name := "newBytesFor", desc := "(I)[B" } : Jvm.MethodName) jdk_52_method_2_code (1 : Nat) (Option.some (Jvm.ClassFile.FieldType.array Jvm.ClassFile.FieldType.byte)), Jvm.Cond.code ({ cls := "java/lang/StringUTF16", name := "newBytesLength", desc := "(I)I" } : Jvm.MethodName) jdk_52_method_3_code (1 : Nat) (Option.some Jvm.ClassFile.FieldType.int), Jvm.Cond.code ({ cls := "java/lang/StringUTF16", name := "putChar", desc := "([BII)V" } : Jvm.MethodName) jdk_52_method_4_code (3 : Nat) (Option.none : Option Jvm.ClassFile.FieldType), Jvm.Cond.code ({ cls := "java/lang/StringUTF16", name := "getChar", desc := "([BI)C" } : Jvm.MethodName) jdk_52_method_5_code (2 : Nat) (Option.some Jvm.ClassFile.FieldType.char), Jvm.Cond.code ({ cls := "java/lang/StringUTF16", name := "charAt", desc := "([BI)C" } : Jvm.MethodName) jdk_52_method_83_code (2 : Nat) (Option.some Jvm.ClassFile.FieldType.char), Jvm.Cond.code ({ cls := "java/lang/StringUTF16", name := "checkIndex", desc := "(I[B)V" } : Jvm.MethodName) jdk_52_method_91_code (2 : Nat) (Option.none : Option Jvm.ClassFile.FieldType), Jvm.Cond.code ({ cls := "java/lang/StringUTF16", name := "length", desc := "([B)I" } : Jvm.MethodName) jdk_52_method_6_code (1 : Nat) (Option.some Jvm.ClassFile.FieldType.int)]
set_option maxRecDepth 65536 in
theorem codes_eq : words1.filter isCode = codes1 := rfl
theorem w_codes : ∀ c ∈ words1.filter isCode, c.before args0 about1 = true := by
  rw [codes_eq]
  intro c hc
  simp only [codes1, List.mem_cons, List.not_mem_nil, or_false] at hc
  rcases hc with rfl | rfl | rfl | rfl | rfl | rfl | rfl | rfl | rfl | rfl | rfl | rfl | rfl | rfl | rfl | rfl | rfl | rfl | rfl | rfl | rfl | rfl | rfl | rfl | rfl | rfl
  · exact w_c0
  · exact w_c1
  · exact w_c2
  · exact w_c3
  · exact w_c4
  · exact w_c5
  · exact w_c6
  · exact w_c7
  · exact w_c8
  · exact w_c9
  · exact w_c10
  · exact w_c11
  · exact w_c12
  · exact w_c13
  · exact w_c14
  · exact w_c15
  · exact w_c16
  · exact w_c17
  · exact w_c18
  · exact w_c19
  · exact w_c20
  · exact w_c21
  · exact w_c22
  · exact w_c23
  · exact w_c24
  · exact w_c25
set_option maxRecDepth 65536 in
theorem w_t1 : (words1.take 24).all (fun c => isCode c || c.before args0 about1) = true := by decide +kernel
set_option maxRecDepth 65536 in
theorem w_t2 : ((words1.drop 24).take 24).all (fun c => isCode c || c.before args0 about1) = true := by decide +kernel
set_option maxRecDepth 65536 in
theorem w_t3 : (((words1.drop 24).drop 24).take 24).all (fun c => isCode c || c.before args0 about1) = true := by decide +kernel
set_option maxRecDepth 65536 in
theorem w_t4 : ((((words1.drop 24).drop 24).drop 24).take 24).all (fun c => isCode c || c.before args0 about1) = true := by decide +kernel
set_option maxRecDepth 65536 in
theorem w_t5 : ((((words1.drop 24).drop 24).drop 24).drop 24).all (fun c => isCode c || c.before args0 about1) = true := by decide +kernel
theorem w_tables : (allAtoms (Jvm.Cond.code x code maxLocals ret :: tables_1)).before args0 about1 = true := by
  rw [allAtoms_all]
  show words1.all (fun c => c.before args0 about1) = true
  refine all_split ?_ w_codes
  rw [← List.take_append_drop 24 words1, List.all_append, w_t1, ← List.take_append_drop 24 (words1.drop 24), List.all_append, w_t2, ← List.take_append_drop 24 ((words1.drop 24).drop 24), List.all_append, w_t3, ← List.take_append_drop 24 (((words1.drop 24).drop 24).drop 24), List.all_append, w_t4, w_t5]
  rfl
set_option maxRecDepth 65536 in
theorem w_rest : rest_1_c.before args0 about1 = true := by decide +kernel
set_option maxRecDepth 65536 in
theorem w_case : (Jvm.Cond.and given_1 narrow_1).before args0 about1 = true := by decide +kernel
set_option maxRecDepth 65536 in
theorem w_consts : constsHeld consts_1 about1 := Jvm.Lit.constsHeldB_iff.mp (by decide +kernel)
theorem w_applies : (headSpec (Jvm.Cond.code x code maxLocals ret :: tables_1) room_1).applies x e0.platform about1 = true :=
  (Spec.applies_iff w_frames).mpr ⟨w_running, w_runnable, w_alone, w_named, w_hears, w_ripe, w_room, w_tables⟩
theorem atStart : AtStart classFile x code maxLocals ret World_1 tables_1 room_1 Calls_1 rest_1 Pre_1 launch0 p0 e0 about1 theMethod args0 below0 :=
  ⟨lists_1, trivial, launch0.admits_env _ _ _, launch0.least_env, fairChoices_fair.cas, fairChoices_fair.clock, w_frames, w_args, w_heap, w_applies, ⟨w_consts, trivial⟩, w_rest, w_case⟩
end start1
theorem witness_1 : WitnessClaimed_1 := ⟨start1.p0, start1.e0, start1.about1, start1.theMethod, start1.args0, start1.below0, start1.atStart⟩
end Jvm.Pilot.@@N@@
