import JvmDerived
import JvmDerived.Pilot.@@N@@Statement
import JvmDerived.Pilot.@@N@@Code
set_option linter.unusedVariables false
set_option linter.unusedSimpArgs false
namespace Jvm.RoadKit
open Sem ClassFile Op Lib Jvm.Stand Jvm.Free Jvm.LawKit
section OwnKit
variable {p : Program} {l : Launch} {e : Env} {R : Room} {s : State} {m : MethodId} {args : Array Value} {below : List Frame} {meth : Method} {c : Code} {T : State} {locs : List Loc} {cells slots : Nat}
def EndsQ (tb : Tables) (e : Env) (below : List Frame) (s : State) (Qv : Option Value → Heap → List Loc → Prop) (rc rs : Nat) (st : State) : Prop :=
  ∃ s₂ o, Steps tb e below st s₂ ∧ s₂.status = .running ∧ Ended s₂ below o ∧ ∃ v L, o = .returned v ∧ Qv v s₂.heap L ∧ FrameEnd s o s₂ L rc rs
theorem EndsQ.go {tb : Tables} {Qv : Option Value → Heap → List Loc → Prop} {rc rs : Nat} {a b : State} (k : ∀ t, Steps tb e below b t → Steps tb e below a t) (h : EndsQ tb e below s Qv rc rs b) : EndsQ tb e below s Qv rc rs a := by
  obtain ⟨s₂, o, h1, h2⟩ := h
  exact ⟨s₂, o, k _ h1, h2⟩
theorem EndsQ.out (X : Stand p l e R s m args below meth c T locs cells slots) (hlk : meth.locks = false) {Qv : Option Value → Heap → List Loc → Prop} {rc rs : Nat} {v : Option Value} {st : State} (hv : meth.sig.returnType = none → v = none)
    (hs : ∀ fs, (∀ (f : JFrame) (acts : List Action), f.method = m → f.locked = none → f.entered = [] → (doReturn e (T.setTop f) acts v).1 = T.setFrames fs) → Steps p.tables e below st (T.setFrames fs))
    (h1 : cells ≤ rc) (h2 : slots ≤ rs) (hq : Qv v T.heap locs) : EndsQ p.tables e below s Qv rc rs st := by
  obtain ⟨fs, hr, hrun, hended, hW, hsame⟩ := X.leave (v := v) hv hlk
  exact ⟨_, _, hs fs hr, hrun, hended, _, _, rfl, hq, ⟨_, rfl⟩, hW, hsame.mono h1 h2⟩
theorem EndsQ.retI (X : Stand p l e R s m args below meth c T locs cells slots) (hx : p.tables.exec = Jvm.exec) (hlk : meth.locks = false) {Qv : Option Value → Heap → List Loc → Prop} {rc rs pc : Nat} {Ls : Array Slot} {z : Int32} {rest : List Value} (hret : meth.sig.returnType = some .int) (hd : decode c.code pc = .ok (.ireturn, 1))
    (h1 : cells ≤ rc) (h2 : slots ≤ rs) (hq : Qv (some (.int z)) T.heap locs) : EndsQ p.tables e below s Qv rc rs (T.setTop (mkF m pc Ls (.int z :: rest))) := by
  refine EndsQ.out X hlk (v := some (.int z)) (fun h => by rw [hret] at h; cases h) (fun fs hr => ?_) h1 h2 hq
  exact retOut X hx hret rfl (Or.inl ⟨rfl, Or.inl rfl, z, rfl⟩) hd hr
theorem EndsQ.retJ (X : Stand p l e R s m args below meth c T locs cells slots) (hx : p.tables.exec = Jvm.exec) (hlk : meth.locks = false) {Qv : Option Value → Heap → List Loc → Prop} {rc rs pc : Nat} {Ls : Array Slot} {z : Int64} {rest : List Value} (hret : meth.sig.returnType = some .long) (hd : decode c.code pc = .ok (.lreturn, 1))
    (h1 : cells ≤ rc) (h2 : slots ≤ rs) (hq : Qv (some (.long z)) T.heap locs) : EndsQ p.tables e below s Qv rc rs (T.setTop (mkF m pc Ls (.long z :: rest))) := by
  refine EndsQ.out X hlk (v := some (.long z)) (fun h => by rw [hret] at h; cases h) (fun fs hr => ?_) h1 h2 hq
  exact retOut X hx hret rfl (Or.inr (Or.inl ⟨rfl, rfl, z, rfl⟩)) hd hr
theorem EndsQ.retA (X : Stand p l e R s m args below meth c T locs cells slots) (hx : p.tables.exec = Jvm.exec) (hlk : meth.locks = false) {Qv : Option Value → Heap → List Loc → Prop} {rc rs pc : Nat} {Ls : Array Slot} {w : Value} {t : FieldType} {rest : List Value} (hret : meth.sig.returnType = some t) (ht : t.isReference = true) (hw : w.isRef = true) (hn : narrow t w = w) (hd : decode c.code pc = .ok (.areturn, 1))
    (h1 : cells ≤ rc) (h2 : slots ≤ rs) (hq : Qv (some w) T.heap locs) : EndsQ p.tables e below s Qv rc rs (T.setTop (mkF m pc Ls (w :: rest))) := by
  refine EndsQ.out X hlk (v := some w) (fun h => by rw [hret] at h; cases h) (fun fs hr => ?_) h1 h2 hq
  exact retOut X hx hret hn (Or.inr (Or.inr (Or.inr (Or.inr ⟨rfl, ht, hw⟩)))) hd hr
theorem EndsQ.retN (X : Stand p l e R s m args below meth c T locs cells slots) (hx : p.tables.exec = Jvm.exec) (hlk : meth.locks = false) {Qv : Option Value → Heap → List Loc → Prop} {rc rs pc : Nat} {Ls : Array Slot} {z : Int32} {t : FieldType} {rest : List Value} (hret : meth.sig.returnType = some t) (ht : t = .boolean ∨ t = .byte ∨ t = .char ∨ t = .short) (hd : decode c.code pc = .ok (.ireturn, 1))
    (h1 : cells ≤ rc) (h2 : slots ≤ rs) (hq : Qv (some (.int (nar t z))) T.heap locs) : EndsQ p.tables e below s Qv rc rs (T.setTop (mkF m pc Ls (.int z :: rest))) := by
  refine EndsQ.out X hlk (v := some (.int (nar t z))) (fun h => by rw [hret] at h; cases h) (fun fs hr => ?_) h1 h2 hq
  exact Jvm.RoadKit.retN X hx hret ht hd hr
theorem EndsQ.retV (X : Stand p l e R s m args below meth c T locs cells slots) (hx : p.tables.exec = Jvm.exec) (hlk : meth.locks = false) {Qv : Option Value → Heap → List Loc → Prop} {rc rs pc : Nat} {Ls : Array Slot} (hret : meth.sig.returnType = none) (hd : decode c.code pc = .ok (.return_, 1))
    (h1 : cells ≤ rc) (h2 : slots ≤ rs) (hq : Qv none T.heap locs) : EndsQ p.tables e below s Qv rc rs (T.setTop (mkF m pc Ls [])) := by
  refine EndsQ.out X hlk (v := none) (fun _ => rfl) (fun fs hr => ?_) h1 h2 hq
  exact X.returnOut hx hret hd hr
end OwnKit
end Jvm.RoadKit
namespace Jvm.RoadKit
open Sem ClassFile Op Lib Jvm.Stand Jvm.Free Jvm.LawKit
section OwnKitW
variable {p : Program} {l : Launch} {e : Env} {R : Room} {s : State} {vm1 : Vm} {kn : Nat} {m : MethodId} {args : Array Value} {below : List Frame} {meth : Method} {c : Code} {T : State} {locs : List Loc} {cells slots : Nat}
def EndsW (tb : Tables) (e : Env) (below : List Frame) (s : State) (Qv : Option Value → Heap → List Loc → Prop) (rc rs : Nat) (st : State) : Prop :=
  ∃ s₂ o, Steps tb e below st s₂ ∧ s₂.status = .running ∧ Ended s₂ below o ∧ ∃ v L, o = .returned v ∧ Qv v s₂.heap L ∧ ReturnedEndW s o s₂ L rc rs
theorem EndsW.go {tb : Tables} {Qv : Option Value → Heap → List Loc → Prop} {rc rs : Nat} {a b : State} (k : ∀ t, Steps tb e below b t → Steps tb e below a t) (h : EndsW tb e below s Qv rc rs b) : EndsW tb e below s Qv rc rs a := by
  obtain ⟨s₂, o, h1, h2⟩ := h
  exact ⟨s₂, o, k _ h1, h2⟩
theorem EndsW.out (X : Stand p l e R (s.setVm vm1) m args below meth c T locs cells slots) (hS : s.Since vm1 kn) (hk : kn ≤ T.heap.size) (hlk : meth.locks = false) {Qv : Option Value → Heap → List Loc → Prop} {rc rs : Nat} {v : Option Value} {st : State} (hv : meth.sig.returnType = none → v = none)
    (hs : ∀ fs, (∀ (f : JFrame) (acts : List Action), f.method = m → f.locked = none → f.entered = [] → (doReturn e (T.setTop f) acts v).1 = T.setFrames fs) → Steps p.tables e below st (T.setFrames fs))
    (h1 : cells ≤ rc) (h2 : slots ≤ rs) (hq : Qv v T.heap locs) : EndsW p.tables e below s Qv rc rs st := by
  obtain ⟨fs, hr, hrun, hended, ⟨w1, w2, w3, w4⟩⟩ := X.leaveW hS hk (v := v) hv hlk
  exact ⟨_, _, hs fs hr, hrun, hended, _, _, rfl, hq, w1, w2, w3, w4.mono h1 h2⟩
theorem EndsW.retI (X : Stand p l e R (s.setVm vm1) m args below meth c T locs cells slots) (hS : s.Since vm1 kn) (hk : kn ≤ T.heap.size) (hx : p.tables.exec = Jvm.exec) (hlk : meth.locks = false) {Qv : Option Value → Heap → List Loc → Prop} {rc rs pc : Nat} {Ls : Array Slot} {z : Int32} {rest : List Value} (hret : meth.sig.returnType = some .int) (hd : decode c.code pc = .ok (.ireturn, 1))
    (h1 : cells ≤ rc) (h2 : slots ≤ rs) (hq : Qv (some (.int z)) T.heap locs) : EndsW p.tables e below s Qv rc rs (T.setTop (mkF m pc Ls (.int z :: rest))) := by
  refine EndsW.out X hS hk hlk (v := some (.int z)) (fun h => by rw [hret] at h; cases h) (fun fs hr => ?_) h1 h2 hq
  exact retOut X hx hret rfl (Or.inl ⟨rfl, Or.inl rfl, z, rfl⟩) hd hr
theorem EndsW.retA (X : Stand p l e R (s.setVm vm1) m args below meth c T locs cells slots) (hS : s.Since vm1 kn) (hk : kn ≤ T.heap.size) (hx : p.tables.exec = Jvm.exec) (hlk : meth.locks = false) {Qv : Option Value → Heap → List Loc → Prop} {rc rs pc : Nat} {Ls : Array Slot} {w : Value} {t : FieldType} {rest : List Value} (hret : meth.sig.returnType = some t) (ht : t.isReference = true) (hw : w.isRef = true) (hn : narrow t w = w) (hd : decode c.code pc = .ok (.areturn, 1))
    (h1 : cells ≤ rc) (h2 : slots ≤ rs) (hq : Qv (some w) T.heap locs) : EndsW p.tables e below s Qv rc rs (T.setTop (mkF m pc Ls (w :: rest))) := by
  refine EndsW.out X hS hk hlk (v := some w) (fun h => by rw [hret] at h; cases h) (fun fs hr => ?_) h1 h2 hq
  exact retOut X hx hret hn (Or.inr (Or.inr (Or.inr (Or.inr ⟨rfl, ht, hw⟩)))) hd hr
theorem EndsW.retN (X : Stand p l e R (s.setVm vm1) m args below meth c T locs cells slots) (hS : s.Since vm1 kn) (hk : kn ≤ T.heap.size) (hx : p.tables.exec = Jvm.exec) (hlk : meth.locks = false) {Qv : Option Value → Heap → List Loc → Prop} {rc rs pc : Nat} {Ls : Array Slot} {z : Int32} {t : FieldType} {rest : List Value} (hret : meth.sig.returnType = some t) (ht : t = .boolean ∨ t = .byte ∨ t = .char ∨ t = .short) (hd : decode c.code pc = .ok (.ireturn, 1))
    (h1 : cells ≤ rc) (h2 : slots ≤ rs) (hq : Qv (some (.int (nar t z))) T.heap locs) : EndsW p.tables e below s Qv rc rs (T.setTop (mkF m pc Ls (.int z :: rest))) := by
  refine EndsW.out X hS hk hlk (v := some (.int (nar t z))) (fun h => by rw [hret] at h; cases h) (fun fs hr => ?_) h1 h2 hq
  exact Jvm.RoadKit.retN X hx hret ht hd hr
theorem EndsW.retV (X : Stand p l e R (s.setVm vm1) m args below meth c T locs cells slots) (hS : s.Since vm1 kn) (hk : kn ≤ T.heap.size) (hx : p.tables.exec = Jvm.exec) (hlk : meth.locks = false) {Qv : Option Value → Heap → List Loc → Prop} {rc rs pc : Nat} {Ls : Array Slot} (hret : meth.sig.returnType = none) (hd : decode c.code pc = .ok (.return_, 1))
    (h1 : cells ≤ rc) (h2 : slots ≤ rs) (hq : Qv none T.heap locs) : EndsW p.tables e below s Qv rc rs (T.setTop (mkF m pc Ls [])) := by
  refine EndsW.out X hS hk hlk (v := none) (fun _ => rfl) (fun fs hr => ?_) h1 h2 hq
  exact X.returnOut hx hret hd hr
end OwnKitW
end Jvm.RoadKit
namespace Jvm.Pilot.@@N@@
open Jvm Jvm.ClassFile Sem Op Lib Jvm.Free Jvm.Stand Jvm.LawKit Jvm.RoadKit Bundle Jvm.Pilot.@@N@@.Jvm.D

theorem own_eqI {args : Array Value} {first s : State} {o : Option Outcome} {idx : List Nat} {t : Term} {k : Int32} (h : (Cond.eq t (.int k)).value args first o s idx = some true) : t.eval args first o idx s = some (.int k) := by
  simp only [Cond.value, Term.eval] at h; cases ht : t.eval args first o idx s with | none => simp [ht] at h | some x => cases x <;> simp [ht] at h ⊢; exact h
theorem own_arr {args : Array Value} {s : State} {t : Term} {ty : FieldType} {a : Addr} {z : Int32} (h : (Cond.arrayOf t ty).value args s none s [] = some true) (ev : t.eval args s none [] s = some (.ref a)) (hl : (Cond.eq (.length t) (.int z)).value args s none s [] = some true) :
    ∃ cl, Arr s s.heap a cl ty ∧ cl.slots.size < 2 ^ 31 ∧ cl.slots.size.toInt32 = z := by
  obtain ⟨cl, A⟩ := Jvm.RoadKit.Arr.start ev h
  obtain ⟨b, cell, e1, e2, e3, e4⟩ := Jvm.Lib.length_spec (own_eqI hl)
  cases ev.symm.trans e1
  cases A.1.symm.trans (Jvm.Lib.arrayAt_spec e2).1
  exact ⟨cl, A, e3, (Value.int.inj e4).symm⟩
theorem own_eqR {args : Array Value} {first s : State} {o : Option Outcome} {idx : List Nat} {t u : Term} {a : Addr} (h : (Cond.eq t u).value args first o s idx = some true) (hu : u.eval args first o idx s = some (.ref a)) : t.eval args first o idx s = some (.ref a) := by
  simp only [Cond.value, hu] at h; cases ht : t.eval args first o idx s with | none => simp [ht] at h | some x => cases x <;> simp [ht] at h ⊢; exact h

theorem own_sta_keep0 {Z : State} {h h' : Heap} {C n d : String} {v : Value} (F : Sta Z h C n d v) (K : Keep h h' []) : Sta Z h' C n d v := by
  obtain ⟨cf, i, k, f, st, cell, h1, h2, h3, h4, h5, h6, h7⟩ := F
  exact ⟨cf, i, k, f, st, cell, h1, h2, h3, h4, K.2.1 _ _ h5 nin0, h6, h7⟩
theorem own_sta_keep {Z : State} {h h' : Heap} {C n d D : String} {v : Value} {a : Addr} (F : Sta Z h C n d v) (K : Keep h h' [a]) (E : Exa Z h a D) : Sta Z h' C n d v := by
  obtain ⟨cf, i, k, f, st, cell, h1, h2, h3, h4, h5, h6, h7⟩ := F
  obtain ⟨c2, k2, g1, -, -, g4, -⟩ := E
  have q : st ≠ a := fun e => by
    subst e
    cases h5.symm.trans g1
    rw [h6] at g4
    cases g4
  exact ⟨cf, i, k, f, st, cell, h1, h2, h3, h4, K.2.1 _ _ h5 (ninS q nin0), h6, h7⟩

def own_cls (k : Int32) (a_UNIVERSAL a_APPLICATION a_CONTEXT_SPECIFIC a_PRIVATE : Addr) : Addr := if k = (0 : Int32) then a_UNIVERSAL else if k = (1 : Int32) then a_APPLICATION else if k = (2 : Int32) then a_CONTEXT_SPECIFIC else a_PRIVATE
def own_eq (t : Addr) (n : Int32) (t' : Addr) (n' : Int32) : Int32 := if t' = t then (if n' = n then 1 else 0) else 0

theorem own_k4 (x : Int32) : (x &&& (3 : Int32)) = 0 ∨ (x &&& (3 : Int32)) = 1 ∨ (x &&& (3 : Int32)) = 2 ∨ (x &&& (3 : Int32)) = 3 := by
  have h1 := c_mask x (3 : Int32) 2 (by decide) rfl
  have e : ∀ (j : Int32) (z : Int), j.toInt = z → (x &&& (3 : Int32)).toInt = z → (x &&& (3 : Int32)) = j := fun j z hz h => Int32.toInt_inj.mp (h.trans hz.symm)
  generalize (x &&& (3 : Int32)) = y at *
  have h6 : y.toInt = 0 ∨ y.toInt = 1 ∨ y.toInt = 2 ∨ y.toInt = 3 := by omega
  rcases h6 with h | h | h | h
  · exact Or.inl (e 0 0 rfl h)
  · exact Or.inr (Or.inl (e 1 1 rfl h))
  · exact Or.inr (Or.inr (Or.inl (e 2 2 rfl h)))
  · exact Or.inr (Or.inr (Or.inr (e 3 3 rfl h)))
theorem own_nn (x : Int32) : ¬ (x &&& (2147483647 : Int32)) < (0 : Int32) := fun q => by
  have h1 := c_mask x (2147483647 : Int32) 31 (by decide) rfl
  have h2 : (0 : Int32).toInt = 0 := rfl
  rw [Int32.lt_iff_toInt_lt] at q
  omega
theorem own_m128 (x : Int32) (h : ¬ x < (0 : Int32)) : ¬ x < (-128 : Int32) := fun q => by
  have h1 : (0 : Int32).toInt = 0 := rfl
  have h2 : (-128 : Int32).toInt = -128 := rfl
  rw [Int32.lt_iff_toInt_lt] at q h
  omega
theorem own_idx (x : Int32) (h : ¬ x < (0 : Int32)) (h2 : ¬ (127 : Int32) < x) : ¬ (x + (128 : Int32)) < 0 ∧ (x + (128 : Int32)) < (256 : Int32) := by
  have a1 : (0 : Int32).toInt = 0 := rfl
  have a2 : (127 : Int32).toInt = 127 := rfl
  have a3 : (256 : Int32).toInt = 256 := rfl
  have a4 : (128 : Int32).toInt = 128 := rfl
  have a5 := c_iadd x (128 : Int32)
  have a6 := rng32 (x + (128 : Int32))
  rw [Int32.lt_iff_toInt_lt] at h h2 ⊢
  rw [Int32.lt_iff_toInt_lt]
  omega
theorem own_exa {Z : State} {h : Heap} {D : String} (k : Int32) {a_UNIVERSAL a_APPLICATION a_CONTEXT_SPECIFIC a_PRIVATE : Addr} (E0 : Exa Z h a_UNIVERSAL D) (E1 : Exa Z h a_APPLICATION D) (E2 : Exa Z h a_CONTEXT_SPECIFIC D) (E3 : Exa Z h a_PRIVATE D) : Exa Z h (own_cls k a_UNIVERSAL a_APPLICATION a_CONTEXT_SPECIFIC a_PRIVATE) D := by
  unfold own_cls
  split
  · exact E0
  · split
    · exact E1
    · split
      · exact E2
      · exact E3
theorem own_inj (k k' : Int32) {a_UNIVERSAL a_APPLICATION a_CONTEXT_SPECIFIC a_PRIVATE : Addr} (n01 : a_UNIVERSAL ≠ a_APPLICATION) (n02 : a_UNIVERSAL ≠ a_CONTEXT_SPECIFIC) (n03 : a_UNIVERSAL ≠ a_PRIVATE) (n12 : a_APPLICATION ≠ a_CONTEXT_SPECIFIC) (n13 : a_APPLICATION ≠ a_PRIVATE) (n23 : a_CONTEXT_SPECIFIC ≠ a_PRIVATE)
    (h : k = 0 ∨ k = 1 ∨ k = 2 ∨ k = 3) (h' : k' = 0 ∨ k' = 1 ∨ k' = 2 ∨ k' = 3) : own_cls k a_UNIVERSAL a_APPLICATION a_CONTEXT_SPECIFIC a_PRIVATE = own_cls k' a_UNIVERSAL a_APPLICATION a_CONTEXT_SPECIFIC a_PRIVATE ↔ k = k' := by
  have d0 : own_cls 0 a_UNIVERSAL a_APPLICATION a_CONTEXT_SPECIFIC a_PRIVATE = a_UNIVERSAL := rfl
  have d1 : own_cls 1 a_UNIVERSAL a_APPLICATION a_CONTEXT_SPECIFIC a_PRIVATE = a_APPLICATION := rfl
  have d2 : own_cls 2 a_UNIVERSAL a_APPLICATION a_CONTEXT_SPECIFIC a_PRIVATE = a_CONTEXT_SPECIFIC := rfl
  have d3 : own_cls 3 a_UNIVERSAL a_APPLICATION a_CONTEXT_SPECIFIC a_PRIVATE = a_PRIVATE := rfl
  rcases h with rfl | rfl | rfl | rfl <;> rcases h' with rfl | rfl | rfl | rfl <;> simp [d0, d1, d2, d3, n01, n02, n03, n12, n13, n23, n01.symm, n02.symm, n03.symm, n12.symm, n13.symm, n23.symm]

theorem own_same (t : Addr) (n : Int32) : own_eq t n t n = 1 := by unfold own_eq; rw [if_pos rfl, if_pos rfl]
theorem own_fin (t t' : Addr) (n n' k k' : Int32) (h : t = t' ↔ k = k') : own_eq t n t' n' = (if k = k' then (if n = n' then (1 : Int32) else (0 : Int32)) else (0 : Int32)) := by
  unfold own_eq
  by_cases q : k = k'
  · rw [if_pos q, if_pos (h.mpr q).symm]
    by_cases r : n = n'
    · rw [if_pos r, if_pos r.symm]
    · rw [if_neg r, if_neg (fun y => r y.symm)]
  · rw [if_neg q, if_neg (fun y => q (h.mp y.symm))]
theorem own_fin' (t t' : Addr) (n n' k k' : Int32) (h : t = t' ↔ k = k') : own_eq t' n' t n = (if k = k' then (if n = n' then (1 : Int32) else (0 : Int32)) else (0 : Int32)) := by
  unfold own_eq
  by_cases q : k = k'
  · rw [if_pos q, if_pos (h.mpr q)]
  · rw [if_neg q, if_neg (fun y => q (h.mp y))]
theorem own_ns {Z : State} {a0 : Array Value} {kk : Nat} (w1 : (Cond.superclass "java/lang/Integer" "java/lang/Number").before a0 Z = true) (w2 : (Cond.superclass "java/lang/Number" "java/lang/Object").before a0 Z = true) (w3 : (Cond.noSuperclass "java/lang/Object").before a0 Z = true) {K : String} (wi : (Cond.instantiable K kk).before a0 Z = true) (h1 : "java/lang/Integer" ≠ K) (h2 : "java/lang/Number" ≠ K) (h3 : "java/lang/Object" ≠ K) :
    ∃ c t, Z.vm.findClass "java/lang/Integer" = some c ∧ Z.vm.findClass K = some t ∧ Z.vm.assignable c t = false := by
  obtain ⟨t, kt, i1, i2, i3, i4, -⟩ := Cond.instantiable_spec wi
  obtain ⟨c3, k3, r1, r2, r3, -, -⟩ := Cond.noSuperclass_spec w3
  have ne3 := ids_ne r1 i1 h3
  have q3 : NS Z "java/lang/Object" K := ⟨c3, t, r1, i1, fun fuel => by
    cases fuel with
    | zero => rfl
    | succ f => simp [Vm.isSubclassAux, ne3, r2, r3]⟩
  obtain ⟨c, t', g1, g2, g3⟩ := NS.step w1 (NS.step w2 q3 h2) h1
  cases i1.symm.trans g2
  obtain ⟨p, k, kp, s1, s2, s3, s4, s5, -, s7⟩ := Cond.superclass_spec g1 w1
  have ne := ids_ne g1 i1 h1
  have ki : kt.isInterface = false := (Bool.or_eq_false_iff.mp i4).1
  refine ⟨c, t, g1, i1, ?_⟩
  show Z.vm.assignableAux (255 + 1) c t = false
  simp [Vm.assignableAux, ne, s2, i2, s5, i3, ki, Vm.isSubclass, g3]
theorem d1_0 : decode method_2_code 0 = .ok (.iload_n 0, 1) := by decide +kernel
theorem d1_1 : decode method_2_code 1 = .ok (.ifCond .ne 7, 3) := by decide +kernel
theorem d1_4 : decode method_2_code 4 = .ok (.getstatic 7, 3) := by decide +kernel
theorem d1_7 : decode method_2_code 7 = .ok (.areturn, 1) := by decide +kernel
theorem d1_8 : decode method_2_code 8 = .ok (.iload_n 0, 1) := by decide +kernel
theorem d1_9 : decode method_2_code 9 = .ok (.iconst 1, 1) := by decide +kernel
theorem d1_10 : decode method_2_code 10 = .ok (.if_icmp .ne 7, 3) := by decide +kernel
theorem d1_13 : decode method_2_code 13 = .ok (.getstatic 13, 3) := by decide +kernel
theorem d1_16 : decode method_2_code 16 = .ok (.areturn, 1) := by decide +kernel
theorem d1_17 : decode method_2_code 17 = .ok (.iload_n 0, 1) := by decide +kernel
theorem d1_18 : decode method_2_code 18 = .ok (.iconst 2, 1) := by decide +kernel
theorem d1_19 : decode method_2_code 19 = .ok (.if_icmp .ne 7, 3) := by decide +kernel
theorem d1_22 : decode method_2_code 22 = .ok (.getstatic 16, 3) := by decide +kernel
theorem d1_25 : decode method_2_code 25 = .ok (.areturn, 1) := by decide +kernel
theorem d1_26 : decode method_2_code 26 = .ok (.getstatic 19, 3) := by decide +kernel
theorem d1_29 : decode method_2_code 29 = .ok (.areturn, 1) := by decide +kernel
theorem pn_1 : plainName "com/example/tagform/tagform/schema/TagEqualsPinLaw" = true := by first | (simp [plainName, overriddenIn]; done) | decide +kernel
theorem d4_0 : decode jdk_31_method_11_code 0 = .ok (.aload_n 0, 1) := by decide +kernel
theorem d4_1 : decode jdk_31_method_11_code 1 = .ok (.ifnonnull 12, 3) := by decide +kernel
theorem d4_4 : decode jdk_31_method_11_code 4 = .ok (.new 84, 3) := by decide +kernel
theorem d4_7 : decode jdk_31_method_11_code 7 = .ok (.dup, 1) := by decide +kernel
theorem d4_8 : decode jdk_31_method_11_code 8 = .ok (.aload_n 1, 1) := by decide +kernel
theorem d4_9 : decode jdk_31_method_11_code 9 = .ok (.invokespecial 87, 3) := by decide +kernel
theorem d4_12 : decode jdk_31_method_11_code 12 = .ok (.athrow, 1) := by decide +kernel
theorem d4_13 : decode jdk_31_method_11_code 13 = .ok (.aload_n 0, 1) := by decide +kernel
theorem d4_14 : decode jdk_31_method_11_code 14 = .ok (.areturn, 1) := by decide +kernel
theorem pn_4 : plainName "java/util/Objects" = true := by first | (simp [plainName, overriddenIn]; done) | decide +kernel
theorem d2_0 : decode prog_149_method_1_code 0 = .ok (.aload_n 0, 1) := by decide +kernel
theorem d2_1 : decode prog_149_method_1_code 1 = .ok (.invokespecial 1, 3) := by decide +kernel
theorem d2_4 : decode prog_149_method_1_code 4 = .ok (.iload_n 2, 1) := by decide +kernel
theorem d2_5 : decode prog_149_method_1_code 5 = .ok (.ifCond .ge 17, 3) := by decide +kernel
theorem d2_8 : decode prog_149_method_1_code 8 = .ok (.new 7, 3) := by decide +kernel
theorem d2_11 : decode prog_149_method_1_code 11 = .ok (.dup, 1) := by decide +kernel
theorem d2_12 : decode prog_149_method_1_code 12 = .ok (.iload_n 2, 1) := by decide +kernel
theorem d2_18 : decode prog_149_method_1_code 18 = .ok (.invokespecial 13, 3) := by decide +kernel
theorem d2_21 : decode prog_149_method_1_code 21 = .ok (.athrow, 1) := by decide +kernel
theorem d2_22 : decode prog_149_method_1_code 22 = .ok (.aload_n 0, 1) := by decide +kernel
theorem d2_23 : decode prog_149_method_1_code 23 = .ok (.aload_n 1, 1) := by decide +kernel
theorem d2_24 : decode prog_149_method_1_code 24 = .ok (.ldc 16, 2) := by decide +kernel
theorem d2_26 : decode prog_149_method_1_code 26 = .ok (.invokestatic 18, 3) := by decide +kernel
theorem d2_29 : decode prog_149_method_1_code 29 = .ok (.checkcast 24, 3) := by decide +kernel
theorem d2_32 : decode prog_149_method_1_code 32 = .ok (.putfield 26, 3) := by decide +kernel
theorem d2_35 : decode prog_149_method_1_code 35 = .ok (.aload_n 0, 1) := by decide +kernel
theorem d2_36 : decode prog_149_method_1_code 36 = .ok (.iload_n 2, 1) := by decide +kernel
theorem d2_37 : decode prog_149_method_1_code 37 = .ok (.putfield 31, 3) := by decide +kernel
theorem d2_40 : decode prog_149_method_1_code 40 = .ok (.return_, 1) := by decide +kernel
theorem pn_2 : plainName "com/example/tagform/tagform/schema/Tag" = true := by first | (simp [plainName, overriddenIn]; done) | decide +kernel
theorem d5_0 : decode prog_149_method_4_code 0 = .ok (.aload_n 1, 1) := by decide +kernel
theorem d5_1 : decode prog_149_method_4_code 1 = .ok (.instanceof 27, 3) := by decide +kernel
theorem d5_4 : decode prog_149_method_4_code 4 = .ok (.ifCond .eq 34, 3) := by decide +kernel
theorem d5_7 : decode prog_149_method_4_code 7 = .ok (.aload_n 1, 1) := by decide +kernel
theorem d5_8 : decode prog_149_method_4_code 8 = .ok (.checkcast 27, 3) := by decide +kernel
theorem d5_11 : decode prog_149_method_4_code 11 = .ok (.astore_n 2, 1) := by decide +kernel
theorem d5_12 : decode prog_149_method_4_code 12 = .ok (.aload_n 2, 1) := by decide +kernel
theorem d5_13 : decode prog_149_method_4_code 13 = .ok (.getfield 26, 3) := by decide +kernel
theorem d5_16 : decode prog_149_method_4_code 16 = .ok (.aload_n 0, 1) := by decide +kernel
theorem d5_17 : decode prog_149_method_4_code 17 = .ok (.getfield 26, 3) := by decide +kernel
theorem d5_20 : decode prog_149_method_4_code 20 = .ok (.if_acmp .ne 18, 3) := by decide +kernel
theorem d5_23 : decode prog_149_method_4_code 23 = .ok (.aload_n 2, 1) := by decide +kernel
theorem d5_24 : decode prog_149_method_4_code 24 = .ok (.getfield 31, 3) := by decide +kernel
theorem d5_27 : decode prog_149_method_4_code 27 = .ok (.aload_n 0, 1) := by decide +kernel
theorem d5_28 : decode prog_149_method_4_code 28 = .ok (.getfield 31, 3) := by decide +kernel
theorem d5_31 : decode prog_149_method_4_code 31 = .ok (.if_icmp .ne 7, 3) := by decide +kernel
theorem d5_34 : decode prog_149_method_4_code 34 = .ok (.iconst 1, 1) := by decide +kernel
theorem d5_35 : decode prog_149_method_4_code 35 = .ok (.goto 4, 3) := by decide +kernel
theorem d5_38 : decode prog_149_method_4_code 38 = .ok (.iconst 0, 1) := by decide +kernel
theorem d5_39 : decode prog_149_method_4_code 39 = .ok (.ireturn, 1) := by decide +kernel
theorem pn_5 : plainName "com/example/tagform/tagform/schema/Tag" = true := by first | (simp [plainName, overriddenIn]; done) | decide +kernel
theorem d8_0 : decode jdk_18_method_1_code 0 = .ok (.aload_n 0, 1) := by decide +kernel
theorem d8_1 : decode jdk_18_method_1_code 1 = .ok (.invokespecial 1, 3) := by decide +kernel
theorem d8_4 : decode jdk_18_method_1_code 4 = .ok (.return_, 1) := by decide +kernel
theorem pn_8 : plainName "java/lang/Number" = true := by first | (simp [plainName, overriddenIn]; done) | decide +kernel
theorem d7_0 : decode jdk_33_method_23_code 0 = .ok (.aload_n 0, 1) := by decide +kernel
theorem d7_1 : decode jdk_33_method_23_code 1 = .ok (.invokespecial 202, 3) := by decide +kernel
theorem d7_4 : decode jdk_33_method_23_code 4 = .ok (.aload_n 0, 1) := by decide +kernel
theorem d7_5 : decode jdk_33_method_23_code 5 = .ok (.iload_n 1, 1) := by decide +kernel
theorem d7_6 : decode jdk_33_method_23_code 6 = .ok (.putfield 205, 3) := by decide +kernel
theorem d7_9 : decode jdk_33_method_23_code 9 = .ok (.return_, 1) := by decide +kernel
theorem pn_7 : plainName "java/lang/Integer" = true := by first | (simp [plainName, overriddenIn]; done) | decide +kernel
theorem d6_0 : decode jdk_33_method_22_code 0 = .ok (.iload_n 0, 1) := by decide +kernel
theorem d6_1 : decode jdk_33_method_22_code 1 = .ok (.bipush (-128), 2) := by decide +kernel
theorem d6_3 : decode jdk_33_method_22_code 3 = .ok (.if_icmp .lt 20, 3) := by decide +kernel
theorem d6_6 : decode jdk_33_method_22_code 6 = .ok (.iload_n 0, 1) := by decide +kernel
theorem d6_7 : decode jdk_33_method_22_code 7 = .ok (.getstatic 191, 3) := by decide +kernel
theorem d6_10 : decode jdk_33_method_22_code 10 = .ok (.if_icmp .gt 13, 3) := by decide +kernel
theorem d6_13 : decode jdk_33_method_22_code 13 = .ok (.getstatic 195, 3) := by decide +kernel
theorem d6_16 : decode jdk_33_method_22_code 16 = .ok (.iload_n 0, 1) := by decide +kernel
theorem d6_17 : decode jdk_33_method_22_code 17 = .ok (.sipush 128, 3) := by decide +kernel
theorem d6_20 : decode jdk_33_method_22_code 20 = .ok (.iadd, 1) := by decide +kernel
theorem d6_21 : decode jdk_33_method_22_code 21 = .ok (.aaload, 1) := by decide +kernel
theorem d6_22 : decode jdk_33_method_22_code 22 = .ok (.areturn, 1) := by decide +kernel
theorem d6_23 : decode jdk_33_method_22_code 23 = .ok (.new 1, 3) := by decide +kernel
theorem d6_26 : decode jdk_33_method_22_code 26 = .ok (.dup, 1) := by decide +kernel
theorem d6_27 : decode jdk_33_method_22_code 27 = .ok (.iload_n 0, 1) := by decide +kernel
theorem d6_28 : decode jdk_33_method_22_code 28 = .ok (.invokespecial 199, 3) := by decide +kernel
theorem d6_31 : decode jdk_33_method_22_code 31 = .ok (.areturn, 1) := by decide +kernel
theorem pn_6 : plainName "java/lang/Integer" = true := by first | (simp [plainName, overriddenIn]; done) | decide +kernel
theorem pn_0 : plainName "com/example/tagform/tagform/schema/TagEqualsPinLaw" = true := by first | (simp [plainName, overriddenIn]; done) | decide +kernel
theorem pd_0 : parseMethodDescriptor "(Ljava/lang/Object;Ljava/lang/String;)Ljava/lang/Object;" = some ⟨[(.object "java/lang/Object"), (.object "java/lang/String")], some (.object "java/lang/Object")⟩ := by decide +kernel
theorem pd_1 : parseMethodDescriptor "()V" = some ⟨[], none⟩ := by decide +kernel
theorem pd_2 : parseMethodDescriptor "(I)V" = some ⟨[.int], none⟩ := by decide +kernel
theorem pd_3 : parseMethodDescriptor "(I)Lcom/example/tagform/tagform/ber/TagClass;" = some ⟨[.int], some (.object "com/example/tagform/tagform/ber/TagClass")⟩ := by decide +kernel
theorem pd_4 : parseMethodDescriptor "(Lcom/example/tagform/tagform/ber/TagClass;I)V" = some ⟨[(.object "com/example/tagform/tagform/ber/TagClass"), .int], none⟩ := by decide +kernel
theorem pd_5 : parseMethodDescriptor "(Ljava/lang/Object;)Z" = some ⟨[(.object "java/lang/Object")], some .boolean⟩ := by decide +kernel
theorem pd_6 : parseMethodDescriptor "(I)Ljava/lang/Integer;" = some ⟨[.int], some (.object "java/lang/Integer")⟩ := by decide +kernel
theorem ef_1 (m : MethodId) (x0 : Int32) : entryFrame m #[(.int x0)] 1 = mkF m 0 #[.val (.int x0)] [] := by first | (simp [entryFrame, mkF, argsToLocals, Value.category]; done) | rfl
def Q1 (Z : State) (p1 : Int32) (a_UNIVERSAL : Addr) (a_APPLICATION : Addr) (a_CONTEXT_SPECIFIC : Addr) (a_PRIVATE : Addr) (h0 : Heap) (n0 : Nat) (v : Option Value) (h : Heap) (L : List Loc) : Prop := v = some (.ref (own_cls p1 a_UNIVERSAL a_APPLICATION a_CONTEXT_SPECIFIC a_PRIVATE)) ∧ Fr n0 L ∧ h = h0
set_option maxRecDepth 65536 in
set_option maxHeartbeats 40000000 in
theorem rm1 (l : Launch) (Z : State) (a0 : Array Value) (hw : ∀ d ∈ tables_1, d.before a0 Z = true) (ws : List Jvm.Cond) (p1 : Int32) (a_UNIVERSAL : Addr) (a_APPLICATION : Addr) (a_CONTEXT_SPECIFIC : Addr) (a_PRIVATE : Addr) (h0 : Heap) (n0 : Nat) (Z0 : n0 ≤ h0.size) (S_UNIVERSAL : Sta Z h0 "com/example/tagform/tagform/ber/TagClass" "UNIVERSAL" "Lcom/example/tagform/tagform/ber/TagClass;" (.ref a_UNIVERSAL)) (S_APPLICATION : Sta Z h0 "com/example/tagform/tagform/ber/TagClass" "APPLICATION" "Lcom/example/tagform/tagform/ber/TagClass;" (.ref a_APPLICATION)) (S_CONTEXT_SPECIFIC : Sta Z h0 "com/example/tagform/tagform/ber/TagClass" "CONTEXT_SPECIFIC" "Lcom/example/tagform/tagform/ber/TagClass;" (.ref a_CONTEXT_SPECIFIC)) (S_PRIVATE : Sta Z h0 "com/example/tagform/tagform/ber/TagClass" "PRIVATE" "Lcom/example/tagform/tagform/ber/TagClass;" (.ref a_PRIVATE)) :
    MetFree l (⟨"com/example/tagform/tagform/schema/TagEqualsPinLaw", "cls", "(I)Lcom/example/tagform/tagform/ber/TagClass;"⟩ : MethodName) (head1 (Jvm.Cond.code (⟨"com/example/tagform/tagform/schema/TagEqualsPinLaw", "cls", "(I)Lcom/example/tagform/tagform/ber/TagClass;"⟩ : MethodName) method_2_code 1 (some (.object "com/example/tagform/tagform/ber/TagClass")) :: ws) ({ frames := 0, cells := 0, slots := 0, locals := 0 } : Room)) (fun a U => a = #[(.int p1)] ∧ Z.Warmed39 U.vm ∧ U.heap = h0) (fun _ _ _ _ _ => True) (fun _ U o U' => ∃ v L, o = .returned v ∧ Q1 Z p1 a_UNIVERSAL a_APPLICATION a_CONTEXT_SPECIFIC a_PRIVATE h0 n0 v U'.heap L ∧ FrameEnd U o U' L ({ frames := 0, cells := 0, slots := 0, locals := 0 } : Room).cells ({ frames := 0, cells := 0, slots := 0, locals := 0 } : Room).slots) := by
  refine MetFree.of_bodySF (plainFor_of_name pn_1) hisR ?_
  intro p e s m args below meth c s₁ Bd hml0 hP hK
  obtain ⟨rfl, hZ, hh⟩ := hP
  have hx := Bd.exec
  have hby := Bd.bytes
  have hml : c.maxLocals = 1 := hml0
  have hown : s.vm.findClass "com/example/tagform/tagform/schema/TagEqualsPinLaw" = some m.cls := findClass_of_methodNamed Bd.named
  have hnm := (name_of_methodNamed Bd.named Bd.method).1
  have X0 : Stand p l e ({ frames := 0, cells := 0, slots := 0, locals := 0 } : Room) s m #[(.int p1)] below meth c s₁ [] 0 0 := Stand.of_body Bd
  have e0 : s₁.heap = h0 := by rw [← hh, Bd.state]; rfl
  have N0 := Fr.nil n0
  show EndsQ p.tables e below s (fun v h L => Q1 Z p1 a_UNIVERSAL a_APPLICATION a_CONTEXT_SPECIFIC a_PRIVATE h0 n0 v h L) ({ frames := 0, cells := 0, slots := 0, locals := 0 } : Room).cells ({ frames := 0, cells := 0, slots := 0, locals := 0 } : Room).slots _
  refine EndsQ.go (b := s₁.setTop (mkF m 0 #[.val (.int p1)] [])) (fun t k => castTop (ef_1 m p1) k) ?_
  refine EndsQ.go (b := s₁.setTop (mkF m 1 #[.val (.int p1)] [(.int p1)])) (fun t k => ?_) ?_
  · show Steps p.tables e below (s₁.setTop (mkF m 0 #[.val (.int p1)] [])) _
    refine XS.iloadN X0.here hx rfl (hb hby d1_0) rfl ?_
    show Steps p.tables e below (s₁.setTop (mkF m 1 #[.val (.int p1)] [(.int p1)])) _
    exact k
  by_cases hc1_101 : p1 = (0 : Int32)
  · refine EndsQ.go (b := s₁.setTop (mkF m 4 #[.val (.int p1)] [])) (fun t k => ?_) ?_
    · show Steps p.tables e below (s₁.setTop (mkF m 1 #[.val (.int p1)] [(.int p1)])) _
      refine XS.ifNo X0.here hx rfl (hb hby d1_1) rfl ((if0 _ _).trans (teq hc1_101).2) ?_
      show Steps p.tables e below (s₁.setTop (mkF m 4 #[.val (.int p1)] [])) _
      exact k
    obtain ⟨T102, X102, e102, st102⟩ := getS X0 hx hZ hown (host := "") (hw _ (List.mem_of_getElem? (i := 8) rfl)) Via.refl e0 S_UNIVERSAL (g := (mkF m 4 #[.val (.int p1)] [])) rfl (hb hby d1_4)
    refine EndsQ.go st102 ?_
    show EndsQ _ _ _ _ _ _ _ (T102.setTop (mkF m 7 #[.val (.int p1)] [(.ref a_UNIVERSAL)]))
    refine EndsQ.retA X102 hx Bd.notSynchronized (w := (.ref a_UNIVERSAL)) Bd.returns rfl rfl rfl (hb hby d1_7) (by decide) (by decide) ?_
    show Q1 Z p1 a_UNIVERSAL a_APPLICATION a_CONTEXT_SPECIFIC a_PRIVATE h0 n0 (some (.ref a_UNIVERSAL)) T102.heap _
    rw [e102]
    exact ⟨by unfold own_cls; rw [if_pos hc1_101], N0, rfl⟩
  · refine EndsQ.go (b := s₁.setTop (mkF m 8 #[.val (.int p1)] [])) (fun t k => ?_) ?_
    · show Steps p.tables e below (s₁.setTop (mkF m 1 #[.val (.int p1)] [(.int p1)])) _
      refine XS.ifYes X0.here hx rfl (pc0 := 1) (pc' := 8) rfl (hb hby d1_1) rfl ((if0 _ _).trans (feq hc1_101).2) (by decide) (by decide) ?_
      show Steps p.tables e below (s₁.setTop (mkF m 8 #[.val (.int p1)] [])) _
      exact k
    refine EndsQ.go (b := s₁.setTop (mkF m 10 #[.val (.int p1)] [(.int (1 : Int32)), (.int p1)])) (fun t k => ?_) ?_
    · show Steps p.tables e below (s₁.setTop (mkF m 8 #[.val (.int p1)] [])) _
      refine XS.iloadN X0.here hx rfl (hb hby d1_8) rfl ?_
      show Steps p.tables e below (s₁.setTop (mkF m 9 #[.val (.int p1)] [(.int p1)])) _
      refine XS.iconst X0.here hx rfl (hb hby d1_9) ?_
      show Steps p.tables e below (s₁.setTop (mkF m 10 #[.val (.int p1)] [(.int (1 : Int32)), (.int p1)])) _
      exact k
    by_cases hc10_103 : p1 = (1 : Int32)
    · refine EndsQ.go (b := s₁.setTop (mkF m 13 #[.val (.int p1)] [])) (fun t k => ?_) ?_
      · show Steps p.tables e below (s₁.setTop (mkF m 10 #[.val (.int p1)] [(.int (1 : Int32)), (.int p1)])) _
        refine XS.icmpNo X0.here hx rfl (hb hby d1_10) rfl (teq hc10_103).2 ?_
        show Steps p.tables e below (s₁.setTop (mkF m 13 #[.val (.int p1)] [])) _
        exact k
      obtain ⟨T104, X104, e104, st104⟩ := getS X0 hx hZ hown (host := "") (hw _ (List.mem_of_getElem? (i := 46) rfl)) Via.refl e0 S_APPLICATION (g := (mkF m 13 #[.val (.int p1)] [])) rfl (hb hby d1_13)
      refine EndsQ.go st104 ?_
      show EndsQ _ _ _ _ _ _ _ (T104.setTop (mkF m 16 #[.val (.int p1)] [(.ref a_APPLICATION)]))
      refine EndsQ.retA X104 hx Bd.notSynchronized (w := (.ref a_APPLICATION)) Bd.returns rfl rfl rfl (hb hby d1_16) (by decide) (by decide) ?_
      show Q1 Z p1 a_UNIVERSAL a_APPLICATION a_CONTEXT_SPECIFIC a_PRIVATE h0 n0 (some (.ref a_APPLICATION)) T104.heap _
      rw [e104]
      exact ⟨by unfold own_cls; rw [if_neg hc1_101, if_pos hc10_103], N0, rfl⟩
    · refine EndsQ.go (b := s₁.setTop (mkF m 17 #[.val (.int p1)] [])) (fun t k => ?_) ?_
      · show Steps p.tables e below (s₁.setTop (mkF m 10 #[.val (.int p1)] [(.int (1 : Int32)), (.int p1)])) _
        refine XS.icmpYes X0.here hx rfl (pc0 := 10) (pc' := 17) rfl (hb hby d1_10) rfl (feq hc10_103).2 (by decide) (by decide) ?_
        show Steps p.tables e below (s₁.setTop (mkF m 17 #[.val (.int p1)] [])) _
        exact k
      refine EndsQ.go (b := s₁.setTop (mkF m 19 #[.val (.int p1)] [(.int (2 : Int32)), (.int p1)])) (fun t k => ?_) ?_
      · show Steps p.tables e below (s₁.setTop (mkF m 17 #[.val (.int p1)] [])) _
        refine XS.iloadN X0.here hx rfl (hb hby d1_17) rfl ?_
        show Steps p.tables e below (s₁.setTop (mkF m 18 #[.val (.int p1)] [(.int p1)])) _
        refine XS.iconst X0.here hx rfl (hb hby d1_18) ?_
        show Steps p.tables e below (s₁.setTop (mkF m 19 #[.val (.int p1)] [(.int (2 : Int32)), (.int p1)])) _
        exact k
      by_cases hc19_105 : p1 = (2 : Int32)
      · refine EndsQ.go (b := s₁.setTop (mkF m 22 #[.val (.int p1)] [])) (fun t k => ?_) ?_
        · show Steps p.tables e below (s₁.setTop (mkF m 19 #[.val (.int p1)] [(.int (2 : Int32)), (.int p1)])) _
          refine XS.icmpNo X0.here hx rfl (hb hby d1_19) rfl (teq hc19_105).2 ?_
          show Steps p.tables e below (s₁.setTop (mkF m 22 #[.val (.int p1)] [])) _
          exact k
        obtain ⟨T106, X106, e106, st106⟩ := getS X0 hx hZ hown (host := "") (hw _ (List.mem_of_getElem? (i := 35) rfl)) Via.refl e0 S_CONTEXT_SPECIFIC (g := (mkF m 22 #[.val (.int p1)] [])) rfl (hb hby d1_22)
        refine EndsQ.go st106 ?_
        show EndsQ _ _ _ _ _ _ _ (T106.setTop (mkF m 25 #[.val (.int p1)] [(.ref a_CONTEXT_SPECIFIC)]))
        refine EndsQ.retA X106 hx Bd.notSynchronized (w := (.ref a_CONTEXT_SPECIFIC)) Bd.returns rfl rfl rfl (hb hby d1_25) (by decide) (by decide) ?_
        show Q1 Z p1 a_UNIVERSAL a_APPLICATION a_CONTEXT_SPECIFIC a_PRIVATE h0 n0 (some (.ref a_CONTEXT_SPECIFIC)) T106.heap _
        rw [e106]
        exact ⟨by unfold own_cls; rw [if_neg hc1_101, if_neg hc10_103, if_pos hc19_105], N0, rfl⟩
      · refine EndsQ.go (b := s₁.setTop (mkF m 26 #[.val (.int p1)] [])) (fun t k => ?_) ?_
        · show Steps p.tables e below (s₁.setTop (mkF m 19 #[.val (.int p1)] [(.int (2 : Int32)), (.int p1)])) _
          refine XS.icmpYes X0.here hx rfl (pc0 := 19) (pc' := 26) rfl (hb hby d1_19) rfl (feq hc19_105).2 (by decide) (by decide) ?_
          show Steps p.tables e below (s₁.setTop (mkF m 26 #[.val (.int p1)] [])) _
          exact k
        obtain ⟨T107, X107, e107, st107⟩ := getS X0 hx hZ hown (host := "") (hw _ (List.mem_of_getElem? (i := 44) rfl)) Via.refl e0 S_PRIVATE (g := (mkF m 26 #[.val (.int p1)] [])) rfl (hb hby d1_26)
        refine EndsQ.go st107 ?_
        show EndsQ _ _ _ _ _ _ _ (T107.setTop (mkF m 29 #[.val (.int p1)] [(.ref a_PRIVATE)]))
        refine EndsQ.retA X107 hx Bd.notSynchronized (w := (.ref a_PRIVATE)) Bd.returns rfl rfl rfl (hb hby d1_29) (by decide) (by decide) ?_
        show Q1 Z p1 a_UNIVERSAL a_APPLICATION a_CONTEXT_SPECIFIC a_PRIVATE h0 n0 (some (.ref a_PRIVATE)) T107.heap _
        rw [e107]
        exact ⟨by unfold own_cls; rw [if_neg hc1_101, if_neg hc10_103, if_neg hc19_105], N0, rfl⟩
theorem ef_4 (m : MethodId) (x0 : Addr) (x1 : Addr) : entryFrame m #[(.ref x0), (.ref x1)] 2 = mkF m 0 #[.val (.ref x0), .val (.ref x1)] [] := by first | (simp [entryFrame, mkF, argsToLocals, Value.category]; done) | rfl
def Q4 (Z : State) (a1 : Addr) (a2 : Addr) (h0 : Heap) (n0 : Nat) (v : Option Value) (h : Heap) (L : List Loc) : Prop := v = some (.ref a1) ∧ Fr n0 L ∧ h = h0
set_option maxRecDepth 65536 in
set_option maxHeartbeats 40000000 in
theorem rm4 (l : Launch) (Z : State) (a0 : Array Value) (hw : ∀ d ∈ tables_1, d.before a0 Z = true) (ws : List Jvm.Cond) (a1 : Addr) (a2 : Addr) (h0 : Heap) (n0 : Nat) (Z0 : n0 ≤ h0.size) :
    MetFree l (⟨"java/util/Objects", "requireNonNull", "(Ljava/lang/Object;Ljava/lang/String;)Ljava/lang/Object;"⟩ : MethodName) (head1 (Jvm.Cond.code (⟨"java/util/Objects", "requireNonNull", "(Ljava/lang/Object;Ljava/lang/String;)Ljava/lang/Object;"⟩ : MethodName) jdk_31_method_11_code 2 (some (.object "java/lang/Object")) :: ws) ({ frames := 0, cells := 0, slots := 0, locals := 0 } : Room)) (fun a U => a = #[(.ref a1), (.ref a2)] ∧ Z.Warmed39 U.vm ∧ U.heap = h0) (fun _ _ _ _ _ => True) (fun _ U o U' => ∃ v L, o = .returned v ∧ Q4 Z a1 a2 h0 n0 v U'.heap L ∧ FrameEnd U o U' L ({ frames := 0, cells := 0, slots := 0, locals := 0 } : Room).cells ({ frames := 0, cells := 0, slots := 0, locals := 0 } : Room).slots) := by
  refine MetFree.of_bodySF (plainFor_of_name pn_4) hisR ?_
  intro p e s m args below meth c s₁ Bd hml0 hP hK
  obtain ⟨rfl, hZ, hh⟩ := hP
  have hx := Bd.exec
  have hby := Bd.bytes
  have hml : c.maxLocals = 2 := hml0
  have hown : s.vm.findClass "java/util/Objects" = some m.cls := findClass_of_methodNamed Bd.named
  have hnm := (name_of_methodNamed Bd.named Bd.method).1
  have X0 : Stand p l e ({ frames := 0, cells := 0, slots := 0, locals := 0 } : Room) s m #[(.ref a1), (.ref a2)] below meth c s₁ [] 0 0 := Stand.of_body Bd
  have e0 : s₁.heap = h0 := by rw [← hh, Bd.state]; rfl
  have N0 := Fr.nil n0
  show EndsQ p.tables e below s (fun v h L => Q4 Z a1 a2 h0 n0 v h L) ({ frames := 0, cells := 0, slots := 0, locals := 0 } : Room).cells ({ frames := 0, cells := 0, slots := 0, locals := 0 } : Room).slots _
  refine EndsQ.go (b := s₁.setTop (mkF m 0 #[.val (.ref a1), .val (.ref a2)] [])) (fun t k => castTop (ef_4 m a1 a2) k) ?_
  refine EndsQ.go (b := s₁.setTop (mkF m 14 #[.val (.ref a1), .val (.ref a2)] [(.ref a1)])) (fun t k => ?_) ?_
  · show Steps p.tables e below (s₁.setTop (mkF m 0 #[.val (.ref a1), .val (.ref a2)] [])) _
    refine XS.aloadN X0.here hx rfl (hb hby d4_0) rfl rfl ?_
    show Steps p.tables e below (s₁.setTop (mkF m 1 #[.val (.ref a1), .val (.ref a2)] [(.ref a1)])) _
    refine XS.ifnonnullYes X0.here hx rfl (pc0 := 1) (pc' := 13) rfl (hb hby d4_1) rfl (by decide) (by decide) ?_
    show Steps p.tables e below (s₁.setTop (mkF m 13 #[.val (.ref a1), .val (.ref a2)] [])) _
    refine XS.aloadN X0.here hx rfl (hb hby d4_13) rfl rfl ?_
    show Steps p.tables e below (s₁.setTop (mkF m 14 #[.val (.ref a1), .val (.ref a2)] [(.ref a1)])) _
    exact k
  refine EndsQ.retA X0 hx Bd.notSynchronized (w := (.ref a1)) Bd.returns rfl rfl rfl (hb hby d4_14) (by decide) (by decide) ?_
  show Q4 Z a1 a2 h0 n0 (some (.ref a1)) s₁.heap _
  rw [e0]
  exact ⟨rfl, N0, rfl⟩
theorem ef_2 (m : MethodId) (x0 : Addr) (x1 : Addr) (x2 : Int32) : entryFrame m #[(.ref x0), (.ref x1), (.int x2)] 3 = mkF m 0 #[.val (.ref x0), .val (.ref x1), .val (.int x2)] [] := by first | (simp [entryFrame, mkF, argsToLocals, Value.category]; done) | rfl
def Q2 (Z : State) (a1 : Addr) (a2 : Addr) (p3 : Int32) (h0 : Heap) (n0 : Nat) (v : Option Value) (h : Heap) (L : List Loc) : Prop := v = none ∧ Fr n0 L ∧ Keep h0 h [a1] ∧ Exa Z h a1 "com/example/tagform/tagform/schema/Tag" ∧ Fld Z h a1 "com/example/tagform/tagform/schema/Tag" "tagClass" "Lcom/example/tagform/tagform/ber/TagClass;" (.ref a2) ∧ Fld Z h a1 "com/example/tagform/tagform/schema/Tag" "number" "I" (.int p3)
set_option maxRecDepth 65536 in
set_option maxHeartbeats 40000000 in
theorem rm2 (l : Launch) (Z : State) (a0 : Array Value) (hw : ∀ d ∈ tables_1, d.before a0 Z = true) (ws : List Jvm.Cond) (a1 : Addr) (a2 : Addr) (p3 : Int32) (h0 : Heap) (n0 : Nat) (Z0 : n0 ≤ h0.size) (F_tagClass : Fld Z h0 a1 "com/example/tagform/tagform/schema/Tag" "tagClass" "Lcom/example/tagform/tagform/ber/TagClass;" .null) (F_number : Fld Z h0 a1 "com/example/tagform/tagform/schema/Tag" "number" "I" (.int (0 : Int32))) (E1 : Exa Z h0 a1 "com/example/tagform/tagform/schema/Tag") (g1 : n0 ≤ a1) (E2 : Exa Z h0 a2 "com/example/tagform/tagform/ber/TagClass") (hp : ¬ p3 < (0 : Int32)) :
    MetFree l (⟨"com/example/tagform/tagform/schema/Tag", "<init>", "(Lcom/example/tagform/tagform/ber/TagClass;I)V"⟩ : MethodName) (head1 (Jvm.Cond.code (⟨"com/example/tagform/tagform/schema/Tag", "<init>", "(Lcom/example/tagform/tagform/ber/TagClass;I)V"⟩ : MethodName) prog_149_method_1_code 3 none :: ws) ({ frames := 2, cells := 2, slots := 36, locals := 32 } : Room)) (fun a U => a = #[(.ref a1), (.ref a2), (.int p3)] ∧ Z.Warmed39 U.vm ∧ U.heap = h0) (fun _ _ _ _ _ => True) (fun _ U o U' => ∃ v L, o = .returned v ∧ Q2 Z a1 a2 p3 h0 n0 v U'.heap L ∧ ReturnedEndW U o U' L ({ frames := 2, cells := 2, slots := 36, locals := 32 } : Room).cells ({ frames := 2, cells := 2, slots := 36, locals := 32 } : Room).slots) := by
  refine MetFree.of_bodySF (plainFor_of_name pn_2) hisR ?_
  intro p e s m args below meth c s₁ Bd hml0 hP hK
  obtain ⟨rfl, hZ, hh⟩ := hP
  have hx := Bd.exec
  have hby := Bd.bytes
  have hml : c.maxLocals = 3 := hml0
  have hown : s.vm.findClass "com/example/tagform/tagform/schema/Tag" = some m.cls := findClass_of_methodNamed Bd.named
  have hnm := (name_of_methodNamed Bd.named Bd.method).1
  have X0 : Stand p l e ({ frames := 2, cells := 2, slots := 36, locals := 32 } : Room) (s.setVm s.vm) m #[(.ref a1), (.ref a2), (.int p3)] below meth c s₁ [] 0 0 := Stand.of_body Bd
  have e0 : s₁.heap = h0 := by rw [← hh, Bd.state]; rfl
  have N0 := Fr.nil n0
  show EndsW p.tables e below s (fun v h L => Q2 Z a1 a2 p3 h0 n0 v h L) ({ frames := 2, cells := 2, slots := 36, locals := 32 } : Room).cells ({ frames := 2, cells := 2, slots := 36, locals := 32 } : Room).slots _
  refine EndsW.go (b := s₁.setTop (mkF m 0 #[.val (.ref a1), .val (.ref a2), .val (.int p3)] [])) (fun t k => castTop (ef_2 m a1 a2 p3) k) ?_
  have hS0 : s.Since s.vm s.heap.size := (State.WarmedH.refl s).since _
  have hk0 : s.heap.size ≤ h0.size := Nat.le_of_eq (congrArg Array.size hh)
  have hZ : Z.Warmed39 (s.setVm s.vm).vm := hZ
  have hown : (s.setVm s.vm).vm.findClass "com/example/tagform/tagform/schema/Tag" = some m.cls := hown
  have K0 : Keep h0 h0 [a1] := Keep.refl _ _
  refine EndsW.go (b := s₁.setTop (mkF m 1 #[.val (.ref a1), .val (.ref a2), .val (.int p3)] [(.ref a1)])) (fun t k => ?_) ?_
  · show Steps p.tables e below (s₁.setTop (mkF m 0 #[.val (.ref a1), .val (.ref a2), .val (.int p3)] [])) _
    refine XS.aloadN X0.here hx rfl (hb hby d2_0) rfl rfl ?_
    show Steps p.tables e below (s₁.setTop (mkF m 1 #[.val (.ref a1), .val (.ref a2), .val (.int p3)] [(.ref a1)])) _
    exact k
  obtain ⟨T101, X101, e101, st101⟩ := initO X0 hx hZ hown (hw _ (List.mem_of_getElem? (i := 14) rfl)) (hw _ (List.mem_of_getElem? (i := 15) rfl)) (hw _ (List.mem_of_getElem? (i := 16) rfl)) e0 (g := (mkF m 1 #[.val (.ref a1), .val (.ref a2), .val (.int p3)] [(.ref a1)])) rfl (by rw [hml]; rfl) rfl (hb hby d2_1) (by decide) (W := 0) (by show 2 * 0 + _ ≤ _; exact Nat.le_of_eq rfl) (by decide)
  refine EndsW.go st101 ?_
  show EndsW _ _ _ _ _ _ _ (T101.setTop (mkF m 4 #[.val (.ref a1), .val (.ref a2), .val (.int p3)] []))
  refine EndsW.go (b := T101.setTop (mkF m 24 #[.val (.ref a1), .val (.ref a2), .val (.int p3)] [(.ref a2), (.ref a1)])) (fun t k => ?_) ?_
  · show Steps p.tables e below (T101.setTop (mkF m 4 #[.val (.ref a1), .val (.ref a2), .val (.int p3)] [])) _
    refine XS.iloadN X101.here hx rfl (hb hby d2_4) rfl ?_
    show Steps p.tables e below (T101.setTop (mkF m 5 #[.val (.ref a1), .val (.ref a2), .val (.int p3)] [(.int p3)])) _
    refine XS.ifYes X101.here hx rfl (pc0 := 5) (pc' := 22) rfl (hb hby d2_5) rfl ((if0 _ _).trans (flt hp).2.1) (by decide) (by decide) ?_
    show Steps p.tables e below (T101.setTop (mkF m 22 #[.val (.ref a1), .val (.ref a2), .val (.int p3)] [])) _
    refine XS.aloadN X101.here hx rfl (hb hby d2_22) rfl rfl ?_
    show Steps p.tables e below (T101.setTop (mkF m 23 #[.val (.ref a1), .val (.ref a2), .val (.int p3)] [(.ref a1)])) _
    refine XS.aloadN X101.here hx rfl (hb hby d2_23) rfl rfl ?_
    show Steps p.tables e below (T101.setTop (mkF m 24 #[.val (.ref a1), .val (.ref a2), .val (.int p3)] [(.ref a2), (.ref a1)])) _
    exact k
  have wS102 : ∀ a ∈ Bundle.stringAtoms, a.before a0 Z = true := by
    intro d hd
    simp only [Bundle.stringAtoms, List.mem_cons, List.not_mem_nil, or_false] at hd
    rcases hd with rfl | rfl | rfl | rfl | rfl | rfl | rfl
    · exact (hw _ (List.mem_of_getElem? (i := 18) rfl))
    · exact (hw _ (List.mem_of_getElem? (i := 19) rfl))
    · exact (hw _ (List.mem_of_getElem? (i := 20) rfl))
    · exact (hw _ (List.mem_of_getElem? (i := 21) rfl))
    · exact (hw _ (List.mem_of_getElem? (i := 22) rfl))
    · exact (hw _ (List.mem_of_getElem? (i := 23) rfl))
    · exact (hw _ (List.mem_of_getElem? (i := 24) rfl))
  obtain ⟨sa102, T102, h102, kn102, X102, e102, E102, hS102, hk102, hZ102, hown102, st102⟩ := ldcS (s := s) X101 hx hZ hown (hw _ (List.mem_of_getElem? (i := 17) rfl)) wS102 e101 hS0 hk0 (g := (mkF m 24 #[.val (.ref a1), .val (.ref a2), .val (.int p3)] [(.ref a2), (.ref a1)])) rfl (hb hby d2_24) (n := 32) (by decide) (by decide) (by decide) (by decide)
  have f103 : Exa Z h102 a1 "com/example/tagform/tagform/schema/Tag" := E1.ext E102
  have f104 : Fld Z h102 a1 "com/example/tagform/tagform/schema/Tag" "tagClass" "Lcom/example/tagform/tagform/ber/TagClass;" .null := F_tagClass.ext E102
  have f105 : Fld Z h102 a1 "com/example/tagform/tagform/schema/Tag" "number" "I" (.int (0 : Int32)) := F_number.ext E102
  have f106 : Exa Z h102 a2 "com/example/tagform/tagform/ber/TagClass" := E2.ext E102
  have f107 : n0 ≤ h102.size := Nat.le_trans Z0 E102.1
  have f108 : Keep h0 h102 [a1] := K0.ext E102
  refine EndsW.go st102 ?_
  show EndsW _ _ _ _ _ _ _ (T102.setTop (mkF m 26 #[.val (.ref a1), .val (.ref a2), .val (.int p3)] [(.ref sa102), (.ref a2), (.ref a1)]))
  obtain ⟨_, _, ⟨T109, L109, kk109, nn109⟩, -, X109, ⟨Lc109, hQ109, l109, y109, z109⟩, st109⟩ := Jvm.LawKit.callS X102 hx (y := (⟨"java/util/Objects", "requireNonNull", "(Ljava/lang/Object;Ljava/lang/String;)Ljava/lang/Object;"⟩ : MethodName)) hown102 (mvT hZ102 (hw _ (List.mem_of_getElem? (i := 25) rfl))) (mvT hZ102 (hw _ (List.mem_of_getElem? (i := 26) rfl))) (mvT hZ102 (hw _ (List.mem_of_getElem? (i := 27) rfl))) (mvT hZ102 (hw _ (List.mem_of_getElem? (i := 28) rfl))) (by decide) (backOf (W := 1) (rm4 l Z a0 hw [] a2 sa102 h102 n0 f107 ) hZ102 (hw _ (List.mem_of_getElem? (i := 28) rfl)) (hw _ (List.mem_of_getElem? (i := 27) rfl)) (by decide) (by decide)) (g := (mkF m 26 #[.val (.ref a1), .val (.ref a2), .val (.int p3)] [(.ref sa102), (.ref a2), (.ref a1)])) rfl (by rw [hml]; rfl) (argsL := [(.ref a2), (.ref sa102)]) (rest := [(.ref a1)]) (lenOf pd_0 rfl) rfl (by show 2 * 0 + _ ≤ _; exact Nat.le_of_eq rfl) (hb hby d2_26) (fun _ _ => ⟨rfl, e102, (by decide : 2 + 0 ≤ _), (by decide : 36 + 0 ≤ _)⟩)
  dsimp only [Pt.U, Pt.locs, Pt.cells, Pt.slots] at X109 l109 y109 z109 st109 hQ109
  subst l109 y109 z109
  obtain ⟨rfl, Nq109, eq109⟩ := hQ109
  have N109 := Fr.app N0 Nq109
  refine EndsW.go st109 ?_
  show EndsW _ _ _ _ _ _ _ (T109.setTop (mkF m 29 #[.val (.ref a1), .val (.ref a2), .val (.int p3)] [(.ref a2), (.ref a1)]))
  obtain ⟨T110, X110, e110, st110⟩ := castY X109 hx hZ102 hown102 (hw _ (List.mem_of_getElem? (i := 29) rfl)) eq109 (Ins.self f106) (g := (mkF m 29 #[.val (.ref a1), .val (.ref a2), .val (.int p3)] [(.ref a2), (.ref a1)])) rfl rfl (hb hby d2_29)
  refine EndsW.go st110 ?_
  show EndsW _ _ _ _ _ _ _ (T110.setTop (mkF m 32 #[.val (.ref a1), .val (.ref a2), .val (.int p3)] [(.ref a2), (.ref a1)]))
  obtain ⟨T111, h111, X111, e111, W111, st111⟩ := putF X110 hx hZ102 hown102 (host := "") (Or.inl (hw _ (List.mem_of_getElem? (i := 31) rfl))) Via.refl e110 f104 f103 (Or.inr ⟨(hw _ (List.mem_of_getElem? (i := 32) rfl)), rfl, hnm⟩) (hw _ (List.mem_of_getElem? (i := 2) rfl)) (ty := (.object "com/example/tagform/tagform/ber/TagClass")) (by decide) rfl rfl (g := (mkF m 32 #[.val (.ref a1), .val (.ref a2), .val (.int p3)] [(.ref a2), (.ref a1)])) rfl rfl (hb hby d2_32)
  have fw111 : Fld Z h111 a1 "com/example/tagform/tagform/schema/Tag" "tagClass" "Lcom/example/tagform/tagform/ber/TagClass;" (.ref a2) := f104.same W111
  have f112 : Exa Z h111 a1 "com/example/tagform/tagform/schema/Tag" := f103.wr W111
  have f113 : Fld Z h111 a1 "com/example/tagform/tagform/schema/Tag" "number" "I" (.int (0 : Int32)) := f105.other W111 (Or.inr (slot_ne (Or.inr (hw _ (List.mem_of_getElem? (i := 34) rfl))) (Or.inr (hw _ (List.mem_of_getElem? (i := 32) rfl))) (by decide) (t := .int) (t' := (.object "com/example/tagform/tagform/ber/TagClass")) (by decide) (by decide)))
  have f114 : Exa Z h111 a2 "com/example/tagform/tagform/ber/TagClass" := f106.wr W111
  have f115 : n0 ≤ h111.size := Nat.le_trans f107 (Keep.of_wr W111).1
  have f116 : Keep h0 h111 [a1] := f108.wr W111 (Or.inl (List.mem_of_getElem? (i := 0) rfl))
  have f117 : kn102 ≤ h111.size := Nat.le_trans hk102 (Keep.of_wr W111).1
  have N111 := Fr.snoc X111 N109 g1
  refine EndsW.go st111 ?_
  show EndsW _ _ _ _ _ _ _ (T111.setTop (mkF m 35 #[.val (.ref a1), .val (.ref a2), .val (.int p3)] []))
  refine EndsW.go (b := T111.setTop (mkF m 37 #[.val (.ref a1), .val (.ref a2), .val (.int p3)] [(.int p3), (.ref a1)])) (fun t k => ?_) ?_
  · show Steps p.tables e below (T111.setTop (mkF m 35 #[.val (.ref a1), .val (.ref a2), .val (.int p3)] [])) _
    refine XS.aloadN X111.here hx rfl (hb hby d2_35) rfl rfl ?_
    show Steps p.tables e below (T111.setTop (mkF m 36 #[.val (.ref a1), .val (.ref a2), .val (.int p3)] [(.ref a1)])) _
    refine XS.iloadN X111.here hx rfl (hb hby d2_36) rfl ?_
    show Steps p.tables e below (T111.setTop (mkF m 37 #[.val (.ref a1), .val (.ref a2), .val (.int p3)] [(.int p3), (.ref a1)])) _
    exact k
  obtain ⟨T118, h118, X118, e118, W118, st118⟩ := putF X111 hx hZ102 hown102 (host := "") (Or.inl (hw _ (List.mem_of_getElem? (i := 33) rfl))) Via.refl e111 f113 f112 (Or.inr ⟨(hw _ (List.mem_of_getElem? (i := 34) rfl)), rfl, hnm⟩) (hw _ (List.mem_of_getElem? (i := 2) rfl)) (ty := .int) (by decide) rfl rfl (g := (mkF m 37 #[.val (.ref a1), .val (.ref a2), .val (.int p3)] [(.int p3), (.ref a1)])) rfl rfl (hb hby d2_37)
  have fw118 : Fld Z h118 a1 "com/example/tagform/tagform/schema/Tag" "number" "I" (.int p3) := f113.same W118
  have f119 : Exa Z h118 a1 "com/example/tagform/tagform/schema/Tag" := f112.wr W118
  have f120 : Exa Z h118 a2 "com/example/tagform/tagform/ber/TagClass" := f114.wr W118
  have f121 : n0 ≤ h118.size := Nat.le_trans f115 (Keep.of_wr W118).1
  have f122 : Keep h0 h118 [a1] := f116.wr W118 (Or.inl (List.mem_of_getElem? (i := 0) rfl))
  have f123 : kn102 ≤ h118.size := Nat.le_trans f117 (Keep.of_wr W118).1
  have f124 : Fld Z h118 a1 "com/example/tagform/tagform/schema/Tag" "tagClass" "Lcom/example/tagform/tagform/ber/TagClass;" (.ref a2) := fw111.other W118 (Or.inr (slot_ne (Or.inr (hw _ (List.mem_of_getElem? (i := 32) rfl))) (Or.inr (hw _ (List.mem_of_getElem? (i := 34) rfl))) (by decide) (t := (.object "com/example/tagform/tagform/ber/TagClass")) (t' := .int) (by decide) (by decide)))
  have N118 := Fr.snoc X118 N111 g1
  refine EndsW.go st118 ?_
  show EndsW _ _ _ _ _ _ _ (T118.setTop (mkF m 40 #[.val (.ref a1), .val (.ref a2), .val (.int p3)] []))
  refine EndsW.retV X118 hS102 (by rw [e118]; exact f123) hx Bd.notSynchronized Bd.returns (hb hby d2_40) (by decide) (by decide) ?_
  show Q2 Z a1 a2 p3 h0 n0 (none) T118.heap _
  rw [e118]
  exact ⟨rfl, N118, f122, f119, f124, fw118⟩
theorem ef_E1 (m : MethodId) (x0 : Addr) (x1 : Addr) : entryFrame m #[(.ref x0), (.ref x1)] 3 = mkF m 0 #[.val (.ref x0), .val (.ref x1), .unset] [] := by first | (simp [entryFrame, mkF, argsToLocals, Value.category]; done) | rfl
def QE1 (Z : State) (a1 : Addr) (a2 : Addr) (t1 : Addr) (n1 : Int32) (t2 : Addr) (n2 : Int32) (h0 : Heap) (n0 : Nat) (v : Option Value) (h : Heap) (L : List Loc) : Prop := v = some (.int (own_eq t1 n1 t2 n2)) ∧ Fr n0 L ∧ h = h0
set_option maxRecDepth 65536 in
set_option maxHeartbeats 40000000 in
theorem rmE1 (l : Launch) (Z : State) (a0 : Array Value) (hw : ∀ d ∈ tables_1, d.before a0 Z = true) (ws : List Jvm.Cond) (a1 : Addr) (a2 : Addr) (t1 : Addr) (n1 : Int32) (t2 : Addr) (n2 : Int32) (h0 : Heap) (n0 : Nat) (Z0 : n0 ≤ h0.size) (F1t : Fld Z h0 a1 "com/example/tagform/tagform/schema/Tag" "tagClass" "Lcom/example/tagform/tagform/ber/TagClass;" (.ref t1)) (F1n : Fld Z h0 a1 "com/example/tagform/tagform/schema/Tag" "number" "I" (.int n1)) (F2t : Fld Z h0 a2 "com/example/tagform/tagform/schema/Tag" "tagClass" "Lcom/example/tagform/tagform/ber/TagClass;" (.ref t2)) (F2n : Fld Z h0 a2 "com/example/tagform/tagform/schema/Tag" "number" "I" (.int n2)) (E2 : Exa Z h0 a2 "com/example/tagform/tagform/schema/Tag") :
    MetFree l (⟨"com/example/tagform/tagform/schema/Tag", "equals", "(Ljava/lang/Object;)Z"⟩ : MethodName) (head1 (Jvm.Cond.code (⟨"com/example/tagform/tagform/schema/Tag", "equals", "(Ljava/lang/Object;)Z"⟩ : MethodName) prog_149_method_4_code 3 (some .boolean) :: ws) ({ frames := 0, cells := 0, slots := 0, locals := 0 } : Room)) (fun a U => a = #[(.ref a1), (.ref a2)] ∧ Z.Warmed39 U.vm ∧ U.heap = h0) (fun _ _ _ _ _ => True) (fun _ U o U' => ∃ v L, o = .returned v ∧ QE1 Z a1 a2 t1 n1 t2 n2 h0 n0 v U'.heap L ∧ FrameEnd U o U' L ({ frames := 0, cells := 0, slots := 0, locals := 0 } : Room).cells ({ frames := 0, cells := 0, slots := 0, locals := 0 } : Room).slots) := by
  refine MetFree.of_bodySF (plainFor_of_name pn_5) hisR ?_
  intro p e s m args below meth c s₁ Bd hml0 hP hK
  obtain ⟨rfl, hZ, hh⟩ := hP
  have hx := Bd.exec
  have hby := Bd.bytes
  have hml : c.maxLocals = 3 := hml0
  have hown : s.vm.findClass "com/example/tagform/tagform/schema/Tag" = some m.cls := findClass_of_methodNamed Bd.named
  have hnm := (name_of_methodNamed Bd.named Bd.method).1
  have X0 : Stand p l e ({ frames := 0, cells := 0, slots := 0, locals := 0 } : Room) s m #[(.ref a1), (.ref a2)] below meth c s₁ [] 0 0 := Stand.of_body Bd
  have e0 : s₁.heap = h0 := by rw [← hh, Bd.state]; rfl
  have N0 := Fr.nil n0
  show EndsQ p.tables e below s (fun v h L => QE1 Z a1 a2 t1 n1 t2 n2 h0 n0 v h L) ({ frames := 0, cells := 0, slots := 0, locals := 0 } : Room).cells ({ frames := 0, cells := 0, slots := 0, locals := 0 } : Room).slots _
  refine EndsQ.go (b := s₁.setTop (mkF m 0 #[.val (.ref a1), .val (.ref a2), .unset] [])) (fun t k => castTop (ef_E1 m a1 a2) k) ?_
  refine EndsQ.go (b := s₁.setTop (mkF m 1 #[.val (.ref a1), .val (.ref a2), .unset] [(.ref a2)])) (fun t k => ?_) ?_
  · show Steps p.tables e below (s₁.setTop (mkF m 0 #[.val (.ref a1), .val (.ref a2), .unset] [])) _
    refine XS.aloadN X0.here hx rfl (hb hby d5_0) rfl rfl ?_
    show Steps p.tables e below (s₁.setTop (mkF m 1 #[.val (.ref a1), .val (.ref a2), .unset] [(.ref a2)])) _
    exact k
  obtain ⟨T101, X101, e101, st101⟩ := instY X0 hx hZ hown (hw _ (List.mem_of_getElem? (i := 42) rfl)) e0 (Ins.self E2) (g := (mkF m 1 #[.val (.ref a1), .val (.ref a2), .unset] [(.ref a2)])) rfl rfl (hb hby d5_1)
  refine EndsQ.go st101 ?_
  show EndsQ _ _ _ _ _ _ _ (T101.setTop (mkF m 4 #[.val (.ref a1), .val (.ref a2), .unset] [(.int (1 : Int32))]))
  refine EndsQ.go (b := T101.setTop (mkF m 8 #[.val (.ref a1), .val (.ref a2), .unset] [(.ref a2)])) (fun t k => ?_) ?_
  · show Steps p.tables e below (T101.setTop (mkF m 4 #[.val (.ref a1), .val (.ref a2), .unset] [(.int (1 : Int32))])) _
    refine XS.ifNo X101.here hx rfl (hb hby d5_4) rfl ((if0 _ _).trans (feq (by decide)).1) ?_
    show Steps p.tables e below (T101.setTop (mkF m 7 #[.val (.ref a1), .val (.ref a2), .unset] [])) _
    refine XS.aloadN X101.here hx rfl (hb hby d5_7) rfl rfl ?_
    show Steps p.tables e below (T101.setTop (mkF m 8 #[.val (.ref a1), .val (.ref a2), .unset] [(.ref a2)])) _
    exact k
  obtain ⟨T102, X102, e102, st102⟩ := castY X101 hx hZ hown (hw _ (List.mem_of_getElem? (i := 42) rfl)) e101 (Ins.self E2) (g := (mkF m 8 #[.val (.ref a1), .val (.ref a2), .unset] [(.ref a2)])) rfl rfl (hb hby d5_8)
  refine EndsQ.go st102 ?_
  show EndsQ _ _ _ _ _ _ _ (T102.setTop (mkF m 11 #[.val (.ref a1), .val (.ref a2), .unset] [(.ref a2)]))
  refine EndsQ.go (b := T102.setTop (mkF m 13 #[.val (.ref a1), .val (.ref a2), .val (.ref a2)] [(.ref a2)])) (fun t k => ?_) ?_
  · show Steps p.tables e below (T102.setTop (mkF m 11 #[.val (.ref a1), .val (.ref a2), .unset] [(.ref a2)])) _
    refine XS.astoreN X102.here hx rfl (hb hby d5_11) rfl rfl (l' := #[.val (.ref a1), .val (.ref a2), .val (.ref a2)]) rfl ?_
    show Steps p.tables e below (T102.setTop (mkF m 12 #[.val (.ref a1), .val (.ref a2), .val (.ref a2)] [])) _
    refine XS.aloadN X102.here hx rfl (hb hby d5_12) rfl rfl ?_
    show Steps p.tables e below (T102.setTop (mkF m 13 #[.val (.ref a1), .val (.ref a2), .val (.ref a2)] [(.ref a2)])) _
    exact k
  obtain ⟨T103, X103, e103, st103⟩ := getF X102 hx hZ hown (host := "") (Or.inl (hw _ (List.mem_of_getElem? (i := 31) rfl))) Via.refl e102 F2t (g := (mkF m 13 #[.val (.ref a1), .val (.ref a2), .val (.ref a2)] [(.ref a2)])) rfl rfl (hb hby d5_13)
  refine EndsQ.go st103 ?_
  show EndsQ _ _ _ _ _ _ _ (T103.setTop (mkF m 16 #[.val (.ref a1), .val (.ref a2), .val (.ref a2)] [(.ref t2)]))
  refine EndsQ.go (b := T103.setTop (mkF m 17 #[.val (.ref a1), .val (.ref a2), .val (.ref a2)] [(.ref a1), (.ref t2)])) (fun t k => ?_) ?_
  · show Steps p.tables e below (T103.setTop (mkF m 16 #[.val (.ref a1), .val (.ref a2), .val (.ref a2)] [(.ref t2)])) _
    refine XS.aloadN X103.here hx rfl (hb hby d5_16) rfl rfl ?_
    show Steps p.tables e below (T103.setTop (mkF m 17 #[.val (.ref a1), .val (.ref a2), .val (.ref a2)] [(.ref a1), (.ref t2)])) _
    exact k
  obtain ⟨T104, X104, e104, st104⟩ := getF X103 hx hZ hown (host := "") (Or.inl (hw _ (List.mem_of_getElem? (i := 31) rfl))) Via.refl e103 F1t (g := (mkF m 17 #[.val (.ref a1), .val (.ref a2), .val (.ref a2)] [(.ref a1), (.ref t2)])) rfl rfl (hb hby d5_17)
  refine EndsQ.go st104 ?_
  show EndsQ _ _ _ _ _ _ _ (T104.setTop (mkF m 20 #[.val (.ref a1), .val (.ref a2), .val (.ref a2)] [(.ref t1), (.ref t2)]))
  by_cases hc20_105 : t2 = t1
  · refine EndsQ.go (b := T104.setTop (mkF m 23 #[.val (.ref a1), .val (.ref a2), .val (.ref a2)] [])) (fun t k => ?_) ?_
    · show Steps p.tables e below (T104.setTop (mkF m 20 #[.val (.ref a1), .val (.ref a2), .val (.ref a2)] [(.ref t1), (.ref t2)])) _
      refine acmp X104 hx rfl (x := (.ref t2)) (y := (.ref t1)) rfl rfl (pc0 := 20) (pc' := 23) (same := true) rfl (hb hby d5_20) rfl (by first | (simp; done) | (rw [hc20_105]; simp)) (by decide) (by decide) ?_
      show Steps p.tables e below (T104.setTop (mkF m 23 #[.val (.ref a1), .val (.ref a2), .val (.ref a2)] [])) _
      exact k
    refine EndsQ.go (b := T104.setTop (mkF m 24 #[.val (.ref a1), .val (.ref a2), .val (.ref a2)] [(.ref a2)])) (fun t k => ?_) ?_
    · show Steps p.tables e below (T104.setTop (mkF m 23 #[.val (.ref a1), .val (.ref a2), .val (.ref a2)] [])) _
      refine XS.aloadN X104.here hx rfl (hb hby d5_23) rfl rfl ?_
      show Steps p.tables e below (T104.setTop (mkF m 24 #[.val (.ref a1), .val (.ref a2), .val (.ref a2)] [(.ref a2)])) _
      exact k
    obtain ⟨T106, X106, e106, st106⟩ := getF X104 hx hZ hown (host := "") (Or.inl (hw _ (List.mem_of_getElem? (i := 33) rfl))) Via.refl e104 F2n (g := (mkF m 24 #[.val (.ref a1), .val (.ref a2), .val (.ref a2)] [(.ref a2)])) rfl rfl (hb hby d5_24)
    refine EndsQ.go st106 ?_
    show EndsQ _ _ _ _ _ _ _ (T106.setTop (mkF m 27 #[.val (.ref a1), .val (.ref a2), .val (.ref a2)] [(.int n2)]))
    refine EndsQ.go (b := T106.setTop (mkF m 28 #[.val (.ref a1), .val (.ref a2), .val (.ref a2)] [(.ref a1), (.int n2)])) (fun t k => ?_) ?_
    · show Steps p.tables e below (T106.setTop (mkF m 27 #[.val (.ref a1), .val (.ref a2), .val (.ref a2)] [(.int n2)])) _
      refine XS.aloadN X106.here hx rfl (hb hby d5_27) rfl rfl ?_
      show Steps p.tables e below (T106.setTop (mkF m 28 #[.val (.ref a1), .val (.ref a2), .val (.ref a2)] [(.ref a1), (.int n2)])) _
      exact k
    obtain ⟨T107, X107, e107, st107⟩ := getF X106 hx hZ hown (host := "") (Or.inl (hw _ (List.mem_of_getElem? (i := 33) rfl))) Via.refl e106 F1n (g := (mkF m 28 #[.val (.ref a1), .val (.ref a2), .val (.ref a2)] [(.ref a1), (.int n2)])) rfl rfl (hb hby d5_28)
    refine EndsQ.go st107 ?_
    show EndsQ _ _ _ _ _ _ _ (T107.setTop (mkF m 31 #[.val (.ref a1), .val (.ref a2), .val (.ref a2)] [(.int n1), (.int n2)]))
    by_cases hc31_108 : n2 = n1
    · refine EndsQ.go (b := T107.setTop (mkF m 34 #[.val (.ref a1), .val (.ref a2), .val (.ref a2)] [])) (fun t k => ?_) ?_
      · show Steps p.tables e below (T107.setTop (mkF m 31 #[.val (.ref a1), .val (.ref a2), .val (.ref a2)] [(.int n1), (.int n2)])) _
        refine XS.icmpNo X107.here hx rfl (hb hby d5_31) rfl (teq hc31_108).2 ?_
        show Steps p.tables e below (T107.setTop (mkF m 34 #[.val (.ref a1), .val (.ref a2), .val (.ref a2)] [])) _
        exact k
      refine EndsQ.go (b := T107.setTop (mkF m 39 #[.val (.ref a1), .val (.ref a2), .val (.ref a2)] [(.int (1 : Int32))])) (fun t k => ?_) ?_
      · show Steps p.tables e below (T107.setTop (mkF m 34 #[.val (.ref a1), .val (.ref a2), .val (.ref a2)] [])) _
        refine XS.iconst X107.here hx rfl (hb hby d5_34) ?_
        show Steps p.tables e below (T107.setTop (mkF m 35 #[.val (.ref a1), .val (.ref a2), .val (.ref a2)] [(.int (1 : Int32))])) _
        refine XS.goto X107.here hx rfl (pc0 := 35) (pc' := 39) rfl (hb hby d5_35) (by decide) (by decide) ?_
        show Steps p.tables e below (T107.setTop (mkF m 39 #[.val (.ref a1), .val (.ref a2), .val (.ref a2)] [(.int (1 : Int32))])) _
        exact k
      refine EndsQ.retN X107 hx Bd.notSynchronized (t := .boolean) Bd.returns (by simp) (hb hby d5_39) (by decide) (by decide) ?_
      show QE1 Z a1 a2 t1 n1 t2 n2 h0 n0 (some (.int (nar .boolean (1 : Int32)))) T107.heap _
      rw [e107]
      exact ⟨by unfold own_eq; rw [if_pos hc20_105, if_pos hc31_108]; rfl, N0, rfl⟩
    · refine EndsQ.go (b := T107.setTop (mkF m 38 #[.val (.ref a1), .val (.ref a2), .val (.ref a2)] [])) (fun t k => ?_) ?_
      · show Steps p.tables e below (T107.setTop (mkF m 31 #[.val (.ref a1), .val (.ref a2), .val (.ref a2)] [(.int n1), (.int n2)])) _
        refine XS.icmpYes X107.here hx rfl (pc0 := 31) (pc' := 38) rfl (hb hby d5_31) rfl (feq hc31_108).2 (by decide) (by decide) ?_
        show Steps p.tables e below (T107.setTop (mkF m 38 #[.val (.ref a1), .val (.ref a2), .val (.ref a2)] [])) _
        exact k
      refine EndsQ.go (b := T107.setTop (mkF m 39 #[.val (.ref a1), .val (.ref a2), .val (.ref a2)] [(.int (0 : Int32))])) (fun t k => ?_) ?_
      · show Steps p.tables e below (T107.setTop (mkF m 38 #[.val (.ref a1), .val (.ref a2), .val (.ref a2)] [])) _
        refine XS.iconst X107.here hx rfl (hb hby d5_38) ?_
        show Steps p.tables e below (T107.setTop (mkF m 39 #[.val (.ref a1), .val (.ref a2), .val (.ref a2)] [(.int (0 : Int32))])) _
        exact k
      refine EndsQ.retN X107 hx Bd.notSynchronized (t := .boolean) Bd.returns (by simp) (hb hby d5_39) (by decide) (by decide) ?_
      show QE1 Z a1 a2 t1 n1 t2 n2 h0 n0 (some (.int (nar .boolean (0 : Int32)))) T107.heap _
      rw [e107]
      exact ⟨by unfold own_eq; rw [if_pos hc20_105, if_neg hc31_108]; rfl, N0, rfl⟩
  · refine EndsQ.go (b := T104.setTop (mkF m 38 #[.val (.ref a1), .val (.ref a2), .val (.ref a2)] [])) (fun t k => ?_) ?_
    · show Steps p.tables e below (T104.setTop (mkF m 20 #[.val (.ref a1), .val (.ref a2), .val (.ref a2)] [(.ref t1), (.ref t2)])) _
      refine acmp X104 hx rfl (x := (.ref t2)) (y := (.ref t1)) rfl rfl (pc0 := 20) (pc' := 38) (same := false) rfl (hb hby d5_20) rfl (decide_eq_false (fun q => hc20_105 (by injection q))) (by decide) (by decide) ?_
      show Steps p.tables e below (T104.setTop (mkF m 38 #[.val (.ref a1), .val (.ref a2), .val (.ref a2)] [])) _
      exact k
    refine EndsQ.go (b := T104.setTop (mkF m 39 #[.val (.ref a1), .val (.ref a2), .val (.ref a2)] [(.int (0 : Int32))])) (fun t k => ?_) ?_
    · show Steps p.tables e below (T104.setTop (mkF m 38 #[.val (.ref a1), .val (.ref a2), .val (.ref a2)] [])) _
      refine XS.iconst X104.here hx rfl (hb hby d5_38) ?_
      show Steps p.tables e below (T104.setTop (mkF m 39 #[.val (.ref a1), .val (.ref a2), .val (.ref a2)] [(.int (0 : Int32))])) _
      exact k
    refine EndsQ.retN X104 hx Bd.notSynchronized (t := .boolean) Bd.returns (by simp) (hb hby d5_39) (by decide) (by decide) ?_
    show QE1 Z a1 a2 t1 n1 t2 n2 h0 n0 (some (.int (nar .boolean (0 : Int32)))) T104.heap _
    rw [e104]
    exact ⟨by unfold own_eq; rw [if_neg hc20_105]; rfl, N0, rfl⟩
theorem ef_E2 (m : MethodId) (x0 : Addr) : entryFrame m #[(.ref x0), .null] 3 = mkF m 0 #[.val (.ref x0), .val .null, .unset] [] := by first | (simp [entryFrame, mkF, argsToLocals, Value.category]; done) | rfl
def QE2 (Z : State) (a1 : Addr) (h0 : Heap) (n0 : Nat) (v : Option Value) (h : Heap) (L : List Loc) : Prop := v = some (.int (0 : Int32)) ∧ Fr n0 L ∧ h = h0
set_option maxRecDepth 65536 in
set_option maxHeartbeats 40000000 in
theorem rmE2 (l : Launch) (Z : State) (a0 : Array Value) (hw : ∀ d ∈ tables_1, d.before a0 Z = true) (ws : List Jvm.Cond) (a1 : Addr) (h0 : Heap) (n0 : Nat) (Z0 : n0 ≤ h0.size) :
    MetFree l (⟨"com/example/tagform/tagform/schema/Tag", "equals", "(Ljava/lang/Object;)Z"⟩ : MethodName) (head1 (Jvm.Cond.code (⟨"com/example/tagform/tagform/schema/Tag", "equals", "(Ljava/lang/Object;)Z"⟩ : MethodName) prog_149_method_4_code 3 (some .boolean) :: ws) ({ frames := 0, cells := 0, slots := 0, locals := 0 } : Room)) (fun a U => a = #[(.ref a1), .null] ∧ Z.Warmed39 U.vm ∧ U.heap = h0) (fun _ _ _ _ _ => True) (fun _ U o U' => ∃ v L, o = .returned v ∧ QE2 Z a1 h0 n0 v U'.heap L ∧ FrameEnd U o U' L ({ frames := 0, cells := 0, slots := 0, locals := 0 } : Room).cells ({ frames := 0, cells := 0, slots := 0, locals := 0 } : Room).slots) := by
  refine MetFree.of_bodySF (plainFor_of_name pn_5) hisR ?_
  intro p e s m args below meth c s₁ Bd hml0 hP hK
  obtain ⟨rfl, hZ, hh⟩ := hP
  have hx := Bd.exec
  have hby := Bd.bytes
  have hml : c.maxLocals = 3 := hml0
  have hown : s.vm.findClass "com/example/tagform/tagform/schema/Tag" = some m.cls := findClass_of_methodNamed Bd.named
  have hnm := (name_of_methodNamed Bd.named Bd.method).1
  have X0 : Stand p l e ({ frames := 0, cells := 0, slots := 0, locals := 0 } : Room) s m #[(.ref a1), .null] below meth c s₁ [] 0 0 := Stand.of_body Bd
  have e0 : s₁.heap = h0 := by rw [← hh, Bd.state]; rfl
  have N0 := Fr.nil n0
  show EndsQ p.tables e below s (fun v h L => QE2 Z a1 h0 n0 v h L) ({ frames := 0, cells := 0, slots := 0, locals := 0 } : Room).cells ({ frames := 0, cells := 0, slots := 0, locals := 0 } : Room).slots _
  refine EndsQ.go (b := s₁.setTop (mkF m 0 #[.val (.ref a1), .val .null, .unset] [])) (fun t k => castTop (ef_E2 m a1) k) ?_
  refine EndsQ.go (b := s₁.setTop (mkF m 1 #[.val (.ref a1), .val .null, .unset] [.null])) (fun t k => ?_) ?_
  · show Steps p.tables e below (s₁.setTop (mkF m 0 #[.val (.ref a1), .val .null, .unset] [])) _
    refine XS.aloadN X0.here hx rfl (hb hby d5_0) rfl rfl ?_
    show Steps p.tables e below (s₁.setTop (mkF m 1 #[.val (.ref a1), .val .null, .unset] [.null])) _
    exact k
  refine EndsQ.go (fun t k => X0.instanceofNull hx (g := (mkF m 1 #[.val (.ref a1), .val .null, .unset] [.null])) rfl rfl (hb hby d5_1) _ k) ?_
  show EndsQ _ _ _ _ _ _ _ (s₁.setTop (mkF m 4 #[.val (.ref a1), .val .null, .unset] [(.int (0 : Int32))]))
  refine EndsQ.go (b := s₁.setTop (mkF m 39 #[.val (.ref a1), .val .null, .unset] [(.int (0 : Int32))])) (fun t k => ?_) ?_
  · show Steps p.tables e below (s₁.setTop (mkF m 4 #[.val (.ref a1), .val .null, .unset] [(.int (0 : Int32))])) _
    refine XS.ifYes X0.here hx rfl (pc0 := 4) (pc' := 38) rfl (hb hby d5_4) rfl ((if0 _ _).trans (teq (by decide)).1) (by decide) (by decide) ?_
    show Steps p.tables e below (s₁.setTop (mkF m 38 #[.val (.ref a1), .val .null, .unset] [])) _
    refine XS.iconst X0.here hx rfl (hb hby d5_38) ?_
    show Steps p.tables e below (s₁.setTop (mkF m 39 #[.val (.ref a1), .val .null, .unset] [(.int (0 : Int32))])) _
    exact k
  refine EndsQ.retN X0 hx Bd.notSynchronized (t := .boolean) Bd.returns (by simp) (hb hby d5_39) (by decide) (by decide) ?_
  show QE2 Z a1 h0 n0 (some (.int (nar .boolean (0 : Int32)))) s₁.heap _
  rw [e0]
  exact ⟨rfl, N0, rfl⟩
theorem ef_E3 (m : MethodId) (x0 : Addr) (x1 : Addr) : entryFrame m #[(.ref x0), (.ref x1)] 3 = mkF m 0 #[.val (.ref x0), .val (.ref x1), .unset] [] := by first | (simp [entryFrame, mkF, argsToLocals, Value.category]; done) | rfl
def QE3 (Z : State) (a1 : Addr) (a2 : Addr) (h0 : Heap) (n0 : Nat) (v : Option Value) (h : Heap) (L : List Loc) : Prop := v = some (.int (0 : Int32)) ∧ Fr n0 L ∧ h = h0
set_option maxRecDepth 65536 in
set_option maxHeartbeats 40000000 in
theorem rmE3 (l : Launch) (Z : State) (a0 : Array Value) (hw : ∀ d ∈ tables_1, d.before a0 Z = true) (ws : List Jvm.Cond) (a1 : Addr) (a2 : Addr) (h0 : Heap) (n0 : Nat) (Z0 : n0 ≤ h0.size) (E2 : Exa Z h0 a2 "java/lang/Integer") :
    MetFree l (⟨"com/example/tagform/tagform/schema/Tag", "equals", "(Ljava/lang/Object;)Z"⟩ : MethodName) (head1 (Jvm.Cond.code (⟨"com/example/tagform/tagform/schema/Tag", "equals", "(Ljava/lang/Object;)Z"⟩ : MethodName) prog_149_method_4_code 3 (some .boolean) :: ws) ({ frames := 0, cells := 0, slots := 0, locals := 0 } : Room)) (fun a U => a = #[(.ref a1), (.ref a2)] ∧ Z.Warmed39 U.vm ∧ U.heap = h0) (fun _ _ _ _ _ => True) (fun _ U o U' => ∃ v L, o = .returned v ∧ QE3 Z a1 a2 h0 n0 v U'.heap L ∧ FrameEnd U o U' L ({ frames := 0, cells := 0, slots := 0, locals := 0 } : Room).cells ({ frames := 0, cells := 0, slots := 0, locals := 0 } : Room).slots) := by
  refine MetFree.of_bodySF (plainFor_of_name pn_5) hisR ?_
  intro p e s m args below meth c s₁ Bd hml0 hP hK
  obtain ⟨rfl, hZ, hh⟩ := hP
  have hx := Bd.exec
  have hby := Bd.bytes
  have hml : c.maxLocals = 3 := hml0
  have hown : s.vm.findClass "com/example/tagform/tagform/schema/Tag" = some m.cls := findClass_of_methodNamed Bd.named
  have hnm := (name_of_methodNamed Bd.named Bd.method).1
  have X0 : Stand p l e ({ frames := 0, cells := 0, slots := 0, locals := 0 } : Room) s m #[(.ref a1), (.ref a2)] below meth c s₁ [] 0 0 := Stand.of_body Bd
  have e0 : s₁.heap = h0 := by rw [← hh, Bd.state]; rfl
  have N0 := Fr.nil n0
  show EndsQ p.tables e below s (fun v h L => QE3 Z a1 a2 h0 n0 v h L) ({ frames := 0, cells := 0, slots := 0, locals := 0 } : Room).cells ({ frames := 0, cells := 0, slots := 0, locals := 0 } : Room).slots _
  refine EndsQ.go (b := s₁.setTop (mkF m 0 #[.val (.ref a1), .val (.ref a2), .unset] [])) (fun t k => castTop (ef_E3 m a1 a2) k) ?_
  refine EndsQ.go (b := s₁.setTop (mkF m 1 #[.val (.ref a1), .val (.ref a2), .unset] [(.ref a2)])) (fun t k => ?_) ?_
  · show Steps p.tables e below (s₁.setTop (mkF m 0 #[.val (.ref a1), .val (.ref a2), .unset] [])) _
    refine XS.aloadN X0.here hx rfl (hb hby d5_0) rfl rfl ?_
    show Steps p.tables e below (s₁.setTop (mkF m 1 #[.val (.ref a1), .val (.ref a2), .unset] [(.ref a2)])) _
    exact k
  obtain ⟨T101, X101, e101, st101⟩ := instNo X0 hx hZ hown (hw _ (List.mem_of_getElem? (i := 42) rfl)) e0 E2 (own_ns (hw _ (List.mem_of_getElem? (i := 69) rfl)) (hw _ (List.mem_of_getElem? (i := 70) rfl)) (hw _ (List.mem_of_getElem? (i := 71) rfl)) (hw _ (List.mem_of_getElem? (i := 2) rfl)) (by decide) (by decide) (by decide)) (g := (mkF m 1 #[.val (.ref a1), .val (.ref a2), .unset] [(.ref a2)])) rfl rfl (hb hby d5_1)
  refine EndsQ.go st101 ?_
  show EndsQ _ _ _ _ _ _ _ (T101.setTop (mkF m 4 #[.val (.ref a1), .val (.ref a2), .unset] [(.int (0 : Int32))]))
  refine EndsQ.go (b := T101.setTop (mkF m 39 #[.val (.ref a1), .val (.ref a2), .unset] [(.int (0 : Int32))])) (fun t k => ?_) ?_
  · show Steps p.tables e below (T101.setTop (mkF m 4 #[.val (.ref a1), .val (.ref a2), .unset] [(.int (0 : Int32))])) _
    refine XS.ifYes X101.here hx rfl (pc0 := 4) (pc' := 38) rfl (hb hby d5_4) rfl ((if0 _ _).trans (teq (by decide)).1) (by decide) (by decide) ?_
    show Steps p.tables e below (T101.setTop (mkF m 38 #[.val (.ref a1), .val (.ref a2), .unset] [])) _
    refine XS.iconst X101.here hx rfl (hb hby d5_38) ?_
    show Steps p.tables e below (T101.setTop (mkF m 39 #[.val (.ref a1), .val (.ref a2), .unset] [(.int (0 : Int32))])) _
    exact k
  refine EndsQ.retN X101 hx Bd.notSynchronized (t := .boolean) Bd.returns (by simp) (hb hby d5_39) (by decide) (by decide) ?_
  show QE3 Z a1 a2 h0 n0 (some (.int (nar .boolean (0 : Int32)))) T101.heap _
  rw [e101]
  exact ⟨rfl, N0, rfl⟩
theorem ef_8 (m : MethodId) (x0 : Addr) : entryFrame m #[(.ref x0)] 1 = mkF m 0 #[.val (.ref x0)] [] := by first | (simp [entryFrame, mkF, argsToLocals, Value.category]; done) | rfl
def Q8 (Z : State) (a1 : Addr) (h0 : Heap) (n0 : Nat) (v : Option Value) (h : Heap) (L : List Loc) : Prop := v = none ∧ Fr n0 L ∧ h = h0
set_option maxRecDepth 65536 in
set_option maxHeartbeats 40000000 in
theorem rm8 (l : Launch) (Z : State) (a0 : Array Value) (hw : ∀ d ∈ tables_1, d.before a0 Z = true) (ws : List Jvm.Cond) (a1 : Addr) (h0 : Heap) (n0 : Nat) (Z0 : n0 ≤ h0.size) :
    MetFree l (⟨"java/lang/Number", "<init>", "()V"⟩ : MethodName) (head1 (Jvm.Cond.code (⟨"java/lang/Number", "<init>", "()V"⟩ : MethodName) jdk_18_method_1_code 1 none :: ws) ({ frames := 1, cells := 0, slots := 0, locals := 12 } : Room)) (fun a U => a = #[(.ref a1)] ∧ Z.Warmed39 U.vm ∧ U.heap = h0) (fun _ _ _ _ _ => True) (fun _ U o U' => ∃ v L, o = .returned v ∧ Q8 Z a1 h0 n0 v U'.heap L ∧ FrameEnd U o U' L ({ frames := 1, cells := 0, slots := 0, locals := 12 } : Room).cells ({ frames := 1, cells := 0, slots := 0, locals := 12 } : Room).slots) := by
  refine MetFree.of_bodySF (plainFor_of_name pn_8) hisR ?_
  intro p e s m args below meth c s₁ Bd hml0 hP hK
  obtain ⟨rfl, hZ, hh⟩ := hP
  have hx := Bd.exec
  have hby := Bd.bytes
  have hml : c.maxLocals = 1 := hml0
  have hown : s.vm.findClass "java/lang/Number" = some m.cls := findClass_of_methodNamed Bd.named
  have hnm := (name_of_methodNamed Bd.named Bd.method).1
  have X0 : Stand p l e ({ frames := 1, cells := 0, slots := 0, locals := 12 } : Room) s m #[(.ref a1)] below meth c s₁ [] 0 0 := Stand.of_body Bd
  have e0 : s₁.heap = h0 := by rw [← hh, Bd.state]; rfl
  have N0 := Fr.nil n0
  show EndsQ p.tables e below s (fun v h L => Q8 Z a1 h0 n0 v h L) ({ frames := 1, cells := 0, slots := 0, locals := 12 } : Room).cells ({ frames := 1, cells := 0, slots := 0, locals := 12 } : Room).slots _
  refine EndsQ.go (b := s₁.setTop (mkF m 0 #[.val (.ref a1)] [])) (fun t k => castTop (ef_8 m a1) k) ?_
  refine EndsQ.go (b := s₁.setTop (mkF m 1 #[.val (.ref a1)] [(.ref a1)])) (fun t k => ?_) ?_
  · show Steps p.tables e below (s₁.setTop (mkF m 0 #[.val (.ref a1)] [])) _
    refine XS.aloadN X0.here hx rfl (hb hby d8_0) rfl rfl ?_
    show Steps p.tables e below (s₁.setTop (mkF m 1 #[.val (.ref a1)] [(.ref a1)])) _
    exact k
  obtain ⟨T101, X101, e101, st101⟩ := initO X0 hx hZ hown (hw _ (List.mem_of_getElem? (i := 66) rfl)) (hw _ (List.mem_of_getElem? (i := 15) rfl)) (hw _ (List.mem_of_getElem? (i := 16) rfl)) e0 (g := (mkF m 1 #[.val (.ref a1)] [(.ref a1)])) rfl (by rw [hml]; rfl) rfl (hb hby d8_1) (by decide) (W := 0) (by show 2 * 0 + _ ≤ _; exact Nat.le_of_eq rfl) (by decide)
  refine EndsQ.go st101 ?_
  show EndsQ _ _ _ _ _ _ _ (T101.setTop (mkF m 4 #[.val (.ref a1)] []))
  refine EndsQ.retV X101 hx Bd.notSynchronized Bd.returns (hb hby d8_4) (by decide) (by decide) ?_
  show Q8 Z a1 h0 n0 (none) T101.heap _
  rw [e101]
  exact ⟨rfl, N0, rfl⟩
theorem ef_7 (m : MethodId) (x0 : Addr) (x1 : Int32) : entryFrame m #[(.ref x0), (.int x1)] 2 = mkF m 0 #[.val (.ref x0), .val (.int x1)] [] := by first | (simp [entryFrame, mkF, argsToLocals, Value.category]; done) | rfl
def Q7 (Z : State) (a1 : Addr) (p2 : Int32) (h0 : Heap) (n0 : Nat) (v : Option Value) (h : Heap) (L : List Loc) : Prop := v = none ∧ Fr n0 L ∧ Keep h0 h [a1] ∧ Exa Z h a1 "java/lang/Integer" ∧ Fld Z h a1 "java/lang/Integer" "value" "I" (.int p2)
set_option maxRecDepth 65536 in
set_option maxHeartbeats 40000000 in
theorem rm7 (l : Launch) (Z : State) (a0 : Array Value) (hw : ∀ d ∈ tables_1, d.before a0 Z = true) (ws : List Jvm.Cond) (a1 : Addr) (p2 : Int32) (h0 : Heap) (n0 : Nat) (Z0 : n0 ≤ h0.size) (F_value : Fld Z h0 a1 "java/lang/Integer" "value" "I" (.int (0 : Int32))) (E1 : Exa Z h0 a1 "java/lang/Integer") (g1 : n0 ≤ a1) :
    MetFree l (⟨"java/lang/Integer", "<init>", "(I)V"⟩ : MethodName) (head1 (Jvm.Cond.code (⟨"java/lang/Integer", "<init>", "(I)V"⟩ : MethodName) jdk_33_method_23_code 2 none :: ws) ({ frames := 2, cells := 0, slots := 0, locals := 24 } : Room)) (fun a U => a = #[(.ref a1), (.int p2)] ∧ Z.Warmed39 U.vm ∧ U.heap = h0) (fun _ _ _ _ _ => True) (fun _ U o U' => ∃ v L, o = .returned v ∧ Q7 Z a1 p2 h0 n0 v U'.heap L ∧ FrameEnd U o U' L ({ frames := 2, cells := 0, slots := 0, locals := 24 } : Room).cells ({ frames := 2, cells := 0, slots := 0, locals := 24 } : Room).slots) := by
  refine MetFree.of_bodySF (plainFor_of_name pn_7) hisR ?_
  intro p e s m args below meth c s₁ Bd hml0 hP hK
  obtain ⟨rfl, hZ, hh⟩ := hP
  have hx := Bd.exec
  have hby := Bd.bytes
  have hml : c.maxLocals = 2 := hml0
  have hown : s.vm.findClass "java/lang/Integer" = some m.cls := findClass_of_methodNamed Bd.named
  have hnm := (name_of_methodNamed Bd.named Bd.method).1
  have X0 : Stand p l e ({ frames := 2, cells := 0, slots := 0, locals := 24 } : Room) s m #[(.ref a1), (.int p2)] below meth c s₁ [] 0 0 := Stand.of_body Bd
  have e0 : s₁.heap = h0 := by rw [← hh, Bd.state]; rfl
  have N0 := Fr.nil n0
  show EndsQ p.tables e below s (fun v h L => Q7 Z a1 p2 h0 n0 v h L) ({ frames := 2, cells := 0, slots := 0, locals := 24 } : Room).cells ({ frames := 2, cells := 0, slots := 0, locals := 24 } : Room).slots _
  refine EndsQ.go (b := s₁.setTop (mkF m 0 #[.val (.ref a1), .val (.int p2)] [])) (fun t k => castTop (ef_7 m a1 p2) k) ?_
  have K0 : Keep h0 h0 [a1] := Keep.refl _ _
  refine EndsQ.go (b := s₁.setTop (mkF m 1 #[.val (.ref a1), .val (.int p2)] [(.ref a1)])) (fun t k => ?_) ?_
  · show Steps p.tables e below (s₁.setTop (mkF m 0 #[.val (.ref a1), .val (.int p2)] [])) _
    refine XS.aloadN X0.here hx rfl (hb hby d7_0) rfl rfl ?_
    show Steps p.tables e below (s₁.setTop (mkF m 1 #[.val (.ref a1), .val (.int p2)] [(.ref a1)])) _
    exact k
  obtain ⟨_, _, ⟨T101, L101, kk101, nn101⟩, -, X101, ⟨Lc101, hQ101, l101, y101, z101⟩, st101⟩ := X0.specialBack hx (y := (⟨"java/lang/Number", "<init>", "()V"⟩ : MethodName)) rfl hown (mvT hZ (hw _ (List.mem_of_getElem? (i := 60) rfl))) (mvT hZ (hw _ (List.mem_of_getElem? (i := 61) rfl))) (mvT hZ (hw _ (List.mem_of_getElem? (i := 65) rfl))) (by decide) (backOf (W := 0) (rm8 l Z a0 hw [] a1 h0 n0 Z0 ) hZ (hw _ (List.mem_of_getElem? (i := 65) rfl)) (hw _ (List.mem_of_getElem? (i := 64) rfl)) (by decide) (by decide)) (g := (mkF m 1 #[.val (.ref a1), .val (.int p2)] [(.ref a1)])) rfl (by rw [hml]; rfl) (Steps.refl _) (a := a1) (argsL := []) (rest := []) (lenOf pd_1 rfl) rfl (by show 2 * 0 + _ ≤ _; exact Nat.le_of_eq rfl) (hb hby d7_1) (fun _ _ => ⟨rfl, e0, (by decide : 0 + 0 ≤ _), (by decide : 0 + 0 ≤ _)⟩)
  dsimp only [Pt.U, Pt.locs, Pt.cells, Pt.slots] at X101 l101 y101 z101 st101 hQ101
  subst l101 y101 z101
  obtain ⟨rfl, Nq101, eq101⟩ := hQ101
  have N101 := Fr.app N0 Nq101
  refine EndsQ.go (fun t k => st101.trans k) ?_
  show EndsQ _ _ _ _ _ _ _ (T101.setTop (mkF m 4 #[.val (.ref a1), .val (.int p2)] []))
  refine EndsQ.go (b := T101.setTop (mkF m 6 #[.val (.ref a1), .val (.int p2)] [(.int p2), (.ref a1)])) (fun t k => ?_) ?_
  · show Steps p.tables e below (T101.setTop (mkF m 4 #[.val (.ref a1), .val (.int p2)] [])) _
    refine XS.aloadN X101.here hx rfl (hb hby d7_4) rfl rfl ?_
    show Steps p.tables e below (T101.setTop (mkF m 5 #[.val (.ref a1), .val (.int p2)] [(.ref a1)])) _
    refine XS.iloadN X101.here hx rfl (hb hby d7_5) rfl ?_
    show Steps p.tables e below (T101.setTop (mkF m 6 #[.val (.ref a1), .val (.int p2)] [(.int p2), (.ref a1)])) _
    exact k
  obtain ⟨T102, h102, X102, e102, W102, st102⟩ := putF X101 hx hZ hown (host := "") (Or.inl (hw _ (List.mem_of_getElem? (i := 67) rfl))) Via.refl eq101 F_value E1 (Or.inr ⟨(hw _ (List.mem_of_getElem? (i := 68) rfl)), rfl, hnm⟩) (hw _ (List.mem_of_getElem? (i := 55) rfl)) (ty := .int) (by decide) rfl rfl (g := (mkF m 6 #[.val (.ref a1), .val (.int p2)] [(.int p2), (.ref a1)])) rfl rfl (hb hby d7_6)
  have fw102 : Fld Z h102 a1 "java/lang/Integer" "value" "I" (.int p2) := F_value.same W102
  have f103 : Exa Z h102 a1 "java/lang/Integer" := E1.wr W102
  have f104 : n0 ≤ h102.size := Nat.le_trans Z0 (Keep.of_wr W102).1
  have f105 : Keep h0 h102 [a1] := K0.wr W102 (Or.inl (List.mem_of_getElem? (i := 0) rfl))
  have N102 := Fr.snoc X102 N101 g1
  refine EndsQ.go st102 ?_
  show EndsQ _ _ _ _ _ _ _ (T102.setTop (mkF m 9 #[.val (.ref a1), .val (.int p2)] []))
  refine EndsQ.retV X102 hx Bd.notSynchronized Bd.returns (hb hby d7_9) (by decide) (by decide) ?_
  show Q7 Z a1 p2 h0 n0 (none) T102.heap _
  rw [e102]
  exact ⟨rfl, N102, f105, f103, fw102⟩
theorem ef_6 (m : MethodId) (x0 : Int32) : entryFrame m #[(.int x0)] 1 = mkF m 0 #[.val (.int x0)] [] := by first | (simp [entryFrame, mkF, argsToLocals, Value.category]; done) | rfl
def Q6 (Z : State) (p1 : Int32) (aC : Addr) (clC : Cell) (h0 : Heap) (n0 : Nat) (v : Option Value) (h : Heap) (L : List Loc) : Prop := ∃ b : Addr, v = some (.ref b) ∧ Fr n0 L ∧ Keep h0 h [] ∧ Exa Z h b "java/lang/Integer"
set_option maxRecDepth 65536 in
set_option maxHeartbeats 40000000 in
theorem rm6 (l : Launch) (Z : State) (a0 : Array Value) (hw : ∀ d ∈ tables_1, d.before a0 Z = true) (ws : List Jvm.Cond) (p1 : Int32) (aC : Addr) (clC : Cell) (h0 : Heap) (n0 : Nat) (Z0 : n0 ≤ h0.size) (S_high : Sta Z h0 "java/lang/Integer$IntegerCache" "high" "I" (.int (127 : Int32))) (S_cache : Sta Z h0 "java/lang/Integer$IntegerCache" "cache" "[Ljava/lang/Integer;" (.ref aC)) (Bx : Bxs Z aC clC "java/lang/Integer" "I" (256 : Int32) (fun j => .int (j - (128 : Int32)))) (O1 : Old Z n0 h0) (hp : ¬ p1 < (0 : Int32)) :
    MetFree l (⟨"java/lang/Integer", "valueOf", "(I)Ljava/lang/Integer;"⟩ : MethodName) (head1 (Jvm.Cond.code (⟨"java/lang/Integer", "valueOf", "(I)Ljava/lang/Integer;"⟩ : MethodName) jdk_33_method_22_code 1 (some (.object "java/lang/Integer")) :: ws) ({ frames := 3, cells := 1, slots := 1, locals := 48 } : Room)) (fun a U => a = #[(.int p1)] ∧ Z.Warmed39 U.vm ∧ U.heap = h0) (fun _ _ _ _ _ => True) (fun _ U o U' => ∃ v L, o = .returned v ∧ Q6 Z p1 aC clC h0 n0 v U'.heap L ∧ FrameEnd U o U' L ({ frames := 3, cells := 1, slots := 1, locals := 48 } : Room).cells ({ frames := 3, cells := 1, slots := 1, locals := 48 } : Room).slots) := by
  refine MetFree.of_bodySF (plainFor_of_name pn_6) hisR ?_
  intro p e s m args below meth c s₁ Bd hml0 hP hK
  obtain ⟨rfl, hZ, hh⟩ := hP
  have hx := Bd.exec
  have hby := Bd.bytes
  have hml : c.maxLocals = 1 := hml0
  have hown : s.vm.findClass "java/lang/Integer" = some m.cls := findClass_of_methodNamed Bd.named
  have hnm := (name_of_methodNamed Bd.named Bd.method).1
  have X0 : Stand p l e ({ frames := 3, cells := 1, slots := 1, locals := 48 } : Room) s m #[(.int p1)] below meth c s₁ [] 0 0 := Stand.of_body Bd
  have e0 : s₁.heap = h0 := by rw [← hh, Bd.state]; rfl
  have N0 := Fr.nil n0
  show EndsQ p.tables e below s (fun v h L => Q6 Z p1 aC clC h0 n0 v h L) ({ frames := 3, cells := 1, slots := 1, locals := 48 } : Room).cells ({ frames := 3, cells := 1, slots := 1, locals := 48 } : Room).slots _
  refine EndsQ.go (b := s₁.setTop (mkF m 0 #[.val (.int p1)] [])) (fun t k => castTop (ef_6 m p1) k) ?_
  have K0 : Keep h0 h0 [] := Keep.refl _ _
  refine EndsQ.go (b := s₁.setTop (mkF m 7 #[.val (.int p1)] [(.int p1)])) (fun t k => ?_) ?_
  · show Steps p.tables e below (s₁.setTop (mkF m 0 #[.val (.int p1)] [])) _
    refine XS.iloadN X0.here hx rfl (hb hby d6_0) rfl ?_
    show Steps p.tables e below (s₁.setTop (mkF m 1 #[.val (.int p1)] [(.int p1)])) _
    refine XS.bipush X0.here hx rfl (hb hby d6_1) ?_
    show Steps p.tables e below (s₁.setTop (mkF m 3 #[.val (.int p1)] [(.int (-128 : Int32)), (.int p1)])) _
    refine XS.icmpNo X0.here hx rfl (hb hby d6_3) rfl (flt (own_m128 p1 hp)).1 ?_
    show Steps p.tables e below (s₁.setTop (mkF m 6 #[.val (.int p1)] [])) _
    refine XS.iloadN X0.here hx rfl (hb hby d6_6) rfl ?_
    show Steps p.tables e below (s₁.setTop (mkF m 7 #[.val (.int p1)] [(.int p1)])) _
    exact k
  obtain ⟨T101, X101, e101, st101⟩ := getS X0 hx hZ hown (host := "") (hw _ (List.mem_of_getElem? (i := 52) rfl)) Via.refl e0 S_high (g := (mkF m 7 #[.val (.int p1)] [(.int p1)])) rfl (hb hby d6_7)
  refine EndsQ.go st101 ?_
  show EndsQ _ _ _ _ _ _ _ (T101.setTop (mkF m 10 #[.val (.int p1)] [(.int (127 : Int32)), (.int p1)]))
  by_cases hc10_102 : (127 : Int32) < p1
  · refine EndsQ.go (b := T101.setTop (mkF m 23 #[.val (.int p1)] [])) (fun t k => ?_) ?_
    · show Steps p.tables e below (T101.setTop (mkF m 10 #[.val (.int p1)] [(.int (127 : Int32)), (.int p1)])) _
      refine XS.icmpYes X101.here hx rfl (pc0 := 10) (pc' := 23) rfl (hb hby d6_10) rfl (tlt hc10_102).2.2.1 (by decide) (by decide) ?_
      show Steps p.tables e below (T101.setTop (mkF m 23 #[.val (.int p1)] [])) _
      exact k
    obtain ⟨T103, h103, X103, e103, E103, A103, D103, -, st103⟩ := newO X101 hx hZ hown (hw _ (List.mem_of_getElem? (i := 54) rfl)) (hw _ (List.mem_of_getElem? (i := 55) rfl)) (hw _ (List.mem_of_getElem? (i := 50) rfl)) e101 (g := (mkF m 23 #[.val (.int p1)] [])) rfl (hb hby d6_23) (by decide) (by decide)
    obtain ⟨b103, g103⟩ : ∃ z, z = h0.size := ⟨_, rfl⟩
    rw [← g103] at A103 D103 st103
    have gn103 : n0 ≤ b103 := Nat.le_trans Z0 (Nat.le_of_eq g103.symm)
    have gh103 : h0.size ≤ b103 := Nat.le_trans K0.1 (Nat.le_of_eq g103.symm)
    have f104 : Sta Z h103 "java/lang/Integer$IntegerCache" "high" "I" (.int (127 : Int32)) := S_high.ext E103
    have f105 : Sta Z h103 "java/lang/Integer$IntegerCache" "cache" "[Ljava/lang/Integer;" (.ref aC) := S_cache.ext E103
    have f106 : Old Z n0 h103 := O1.ext E103
    have f107 : n0 ≤ h103.size := Nat.le_trans Z0 E103.1
    have f108 : Keep h0 h103 [] := K0.ext E103
    have f109 : Fld Z h103 b103 "java/lang/Integer" "value" "I" (.int (0 : Int32)) := D103 (Or.inr (hw _ (List.mem_of_getElem? (i := 68) rfl))) (ty := .int) (by decide)
    refine EndsQ.go st103 ?_
    show EndsQ _ _ _ _ _ _ _ (T103.setTop (mkF m 26 #[.val (.int p1)] [(.ref b103)]))
    refine EndsQ.go (b := T103.setTop (mkF m 28 #[.val (.int p1)] [(.int p1), (.ref b103), (.ref b103)])) (fun t k => ?_) ?_
    · show Steps p.tables e below (T103.setTop (mkF m 26 #[.val (.int p1)] [(.ref b103)])) _
      refine XS.dup X103.here hx rfl (hb hby d6_26) rfl rfl ?_
      show Steps p.tables e below (T103.setTop (mkF m 27 #[.val (.int p1)] [(.ref b103), (.ref b103)])) _
      refine XS.iloadN X103.here hx rfl (hb hby d6_27) rfl ?_
      show Steps p.tables e below (T103.setTop (mkF m 28 #[.val (.int p1)] [(.int p1), (.ref b103), (.ref b103)])) _
      exact k
    obtain ⟨_, _, ⟨T110, L110, kk110, nn110⟩, -, X110, ⟨Lc110, hQ110, l110, y110, z110⟩, st110⟩ := X103.specialBack hx (y := (⟨"java/lang/Integer", "<init>", "(I)V"⟩ : MethodName)) rfl hown (mvT hZ (hw _ (List.mem_of_getElem? (i := 56) rfl))) (mvT hZ (hw _ (List.mem_of_getElem? (i := 57) rfl))) (mvT hZ (hw _ (List.mem_of_getElem? (i := 59) rfl))) (by decide) (backOf (W := 1) (rm7 l Z a0 hw [] b103 p1 h103 n0 f107 f109 A103 gn103 ) hZ (hw _ (List.mem_of_getElem? (i := 59) rfl)) (hw _ (List.mem_of_getElem? (i := 50) rfl)) (by decide) (by decide)) (g := (mkF m 28 #[.val (.int p1)] [(.int p1), (.ref b103), (.ref b103)])) rfl (by rw [hml]; rfl) (Steps.refl _) (a := b103) (argsL := [(.int p1)]) (rest := [(.ref b103)]) (lenOf pd_2 rfl) rfl (by show 2 * 0 + _ ≤ _; exact Nat.le_of_eq rfl) (hb hby d6_28) (fun _ _ => ⟨rfl, e103, (by decide : 1 + 0 ≤ _), (by decide : 1 + 0 ≤ _)⟩)
    dsimp only [Pt.U, Pt.locs, Pt.cells, Pt.slots] at X110 l110 y110 z110 st110 hQ110
    subst l110 y110 z110
    obtain ⟨rfl, Nq110, K110, Ex110, F110_value⟩ := hQ110
    have N110 := Fr.app N0 Nq110
    have f111 : Sta Z T110.heap "java/lang/Integer$IntegerCache" "high" "I" (.int (127 : Int32)) := own_sta_keep f104 K110 A103
    have f112 : Sta Z T110.heap "java/lang/Integer$IntegerCache" "cache" "[Ljava/lang/Integer;" (.ref aC) := own_sta_keep f105 K110 A103
    have f113 : Old Z n0 T110.heap := f106.keep K110 (allS gn103 all0)
    have f114 : n0 ≤ T110.heap.size := Nat.le_trans f107 K110.1
    have f115 : Keep h0 T110.heap [] := f108.trans K110 (allS (Or.inr gh103) all0)
    refine EndsQ.go (fun t k => st110.trans k) ?_
    show EndsQ _ _ _ _ _ _ _ (T110.setTop (mkF m 31 #[.val (.int p1)] [(.ref b103)]))
    refine EndsQ.retA X110 hx Bd.notSynchronized (w := (.ref b103)) Bd.returns rfl rfl rfl (hb hby d6_31) (by decide) (by decide) ?_
    show Q6 Z p1 aC clC h0 n0 (some (.ref b103)) T110.heap _
    exact ⟨b103, rfl, N110, f115, Ex110⟩
  · refine EndsQ.go (b := T101.setTop (mkF m 13 #[.val (.int p1)] [])) (fun t k => ?_) ?_
    · show Steps p.tables e below (T101.setTop (mkF m 10 #[.val (.int p1)] [(.int (127 : Int32)), (.int p1)])) _
      refine XS.icmpNo X101.here hx rfl (hb hby d6_10) rfl (flt hc10_102).2.2.1 ?_
      show Steps p.tables e below (T101.setTop (mkF m 13 #[.val (.int p1)] [])) _
      exact k
    obtain ⟨T116, X116, e116, st116⟩ := getS X101 hx hZ hown (host := "") (hw _ (List.mem_of_getElem? (i := 72) rfl)) Via.refl e101 S_cache (g := (mkF m 13 #[.val (.int p1)] [])) rfl (hb hby d6_13)
    refine EndsQ.go st116 ?_
    show EndsQ _ _ _ _ _ _ _ (T116.setTop (mkF m 16 #[.val (.int p1)] [(.ref aC)]))
    refine EndsQ.go (b := T116.setTop (mkF m 21 #[.val (.int p1)] [(.int (p1 + (128 : Int32))), (.ref aC)])) (fun t k => ?_) ?_
    · show Steps p.tables e below (T116.setTop (mkF m 16 #[.val (.int p1)] [(.ref aC)])) _
      refine XS.iloadN X116.here hx rfl (hb hby d6_16) rfl ?_
      show Steps p.tables e below (T116.setTop (mkF m 17 #[.val (.int p1)] [(.int p1), (.ref aC)])) _
      refine XS.sipush X116.here hx rfl (hb hby d6_17) ?_
      show Steps p.tables e below (T116.setTop (mkF m 20 #[.val (.int p1)] [(.int (128 : Int32)), (.int p1), (.ref aC)])) _
      refine XS.iadd X116.here hx rfl (hb hby d6_20) rfl ?_
      show Steps p.tables e below (T116.setTop (mkF m 21 #[.val (.int p1)] [(.int (p1 + (128 : Int32))), (.ref aC)])) _
      exact k
    have hin117 : ¬ ((p1 + (128 : Int32)) < 0 ∨ clC.slots.size ≤ ((p1 + (128 : Int32))).toNatClampNeg) := inb_of Bx.2.1 (own_idx p1 hp hc10_102)
    obtain ⟨bx117, hat117, Ez117, -⟩ := Bx.2.2.2 _ hin117
    have Ar117 := (Bx.ext O1.2).1
    have Ex117 : Exa Z h0 bx117 "java/lang/Integer" := Ez117.ext O1.2
    refine EndsQ.go (fun t k => X116.aaload hx (j := (p1 + (128 : Int32))) (v := (.ref bx117)) (by rw [e116]; exact Ar117.1) (State.isArrayOf_alike hZ.alike Ar117.2.1) rfl Ar117.2.2 hin117 hat117 (g := (mkF m 21 #[.val (.int p1)] [(.int (p1 + (128 : Int32))), (.ref aC)])) rfl rfl (hb hby d6_21) _ k) ?_
    show EndsQ _ _ _ _ _ _ _ (T116.setTop (mkF m 22 #[.val (.int p1)] [(.ref bx117)]))
    refine EndsQ.retA X116 hx Bd.notSynchronized (w := (.ref bx117)) Bd.returns rfl rfl rfl (hb hby d6_22) (by decide) (by decide) ?_
    show Q6 Z p1 aC clC h0 n0 (some (.ref bx117)) T116.heap _
    rw [e116]
    exact ⟨bx117, rfl, N0, K0, Ex117⟩
theorem ef_0 (m : MethodId) (x0 : Int32) (x1 : Int32) (x2 : Int32) (x3 : Int32) (x4 : Int32) : entryFrame m #[(.int x0), (.int x1), (.int x2), (.int x3), (.int x4)] maxLocals = mkF m 0 #[.val (.int x0), .val (.int x1), .val (.int x2), .val (.int x3), .val (.int x4), .unset, .unset, .unset, .unset, .unset, .unset, .unset, .unset] [] := by first | (simp [entryFrame, mkF, argsToLocals, Value.category, maxLocals]; done) | rfl
def Q0 (Z : State) (p1 : Int32) (p2 : Int32) (p3 : Int32) (p4 : Int32) (p5 : Int32) (a_UNIVERSAL : Addr) (a_APPLICATION : Addr) (a_CONTEXT_SPECIFIC : Addr) (a_PRIVATE : Addr) (aC : Addr) (clC : Cell) (h0 : Heap) (n0 : Nat) (v : Option Value) (h : Heap) (L : List Loc) : Prop := v = some (.int 1) ∧ Fr n0 L
set_option maxRecDepth 65536 in
set_option maxHeartbeats 40000000 in
theorem rm0 (l : Launch) (Z : State) (a0 : Array Value) (hw : ∀ d ∈ tables_1, d.before a0 Z = true) (ws : List Jvm.Cond) (p1 : Int32) (p2 : Int32) (p3 : Int32) (p4 : Int32) (p5 : Int32) (a_UNIVERSAL : Addr) (a_APPLICATION : Addr) (a_CONTEXT_SPECIFIC : Addr) (a_PRIVATE : Addr) (aC : Addr) (clC : Cell) (h0 : Heap) (n0 : Nat) (Z0 : n0 ≤ h0.size) (S_UNIVERSAL : Sta Z h0 "com/example/tagform/tagform/ber/TagClass" "UNIVERSAL" "Lcom/example/tagform/tagform/ber/TagClass;" (.ref a_UNIVERSAL)) (S_APPLICATION : Sta Z h0 "com/example/tagform/tagform/ber/TagClass" "APPLICATION" "Lcom/example/tagform/tagform/ber/TagClass;" (.ref a_APPLICATION)) (S_CONTEXT_SPECIFIC : Sta Z h0 "com/example/tagform/tagform/ber/TagClass" "CONTEXT_SPECIFIC" "Lcom/example/tagform/tagform/ber/TagClass;" (.ref a_CONTEXT_SPECIFIC)) (S_PRIVATE : Sta Z h0 "com/example/tagform/tagform/ber/TagClass" "PRIVATE" "Lcom/example/tagform/tagform/ber/TagClass;" (.ref a_PRIVATE)) (S_high : Sta Z h0 "java/lang/Integer$IntegerCache" "high" "I" (.int (127 : Int32))) (S_cache : Sta Z h0 "java/lang/Integer$IntegerCache" "cache" "[Ljava/lang/Integer;" (.ref aC)) (Bx : Bxs Z aC clC "java/lang/Integer" "I" (256 : Int32) (fun j => .int (j - (128 : Int32)))) (O1 : Old Z n0 h0) (E_UNIVERSAL : Exa Z h0 a_UNIVERSAL "com/example/tagform/tagform/ber/TagClass") (E_APPLICATION : Exa Z h0 a_APPLICATION "com/example/tagform/tagform/ber/TagClass") (E_CONTEXT_SPECIFIC : Exa Z h0 a_CONTEXT_SPECIFIC "com/example/tagform/tagform/ber/TagClass") (E_PRIVATE : Exa Z h0 a_PRIVATE "com/example/tagform/tagform/ber/TagClass") (n01 : a_UNIVERSAL ≠ a_APPLICATION) (n02 : a_UNIVERSAL ≠ a_CONTEXT_SPECIFIC) (n03 : a_UNIVERSAL ≠ a_PRIVATE) (n12 : a_APPLICATION ≠ a_CONTEXT_SPECIFIC) (n13 : a_APPLICATION ≠ a_PRIVATE) (n23 : a_CONTEXT_SPECIFIC ≠ a_PRIVATE) :
    MetFree l x (head1 (Jvm.Cond.code x code maxLocals ret :: ws) room_1) (fun a U => a = #[(.int p1), (.int p2), (.int p3), (.int p4), (.int p5)] ∧ Z.Warmed39 U.vm ∧ U.heap = h0) (fun _ _ _ _ _ => True) (fun _ U o U' => ∃ v L, o = .returned v ∧ Q0 Z p1 p2 p3 p4 p5 a_UNIVERSAL a_APPLICATION a_CONTEXT_SPECIFIC a_PRIVATE aC clC h0 n0 v U'.heap L ∧ ReturnedEndW U o U' L 16 1152) := by
  refine MetFree.of_bodySF (plainFor_of_name pn_0) hisR ?_
  intro p e s m args below meth c s₁ Bd hml0 hP hK
  obtain ⟨rfl, hZ, hh⟩ := hP
  have hx := Bd.exec
  have hby := Bd.bytes
  have hml : c.maxLocals = 13 := hml0
  have hown : s.vm.findClass "com/example/tagform/tagform/schema/TagEqualsPinLaw" = some m.cls := findClass_of_methodNamed Bd.named
  have hnm := (name_of_methodNamed Bd.named Bd.method).1
  have X0 : Stand p l e room_1 (s.setVm s.vm) m #[(.int p1), (.int p2), (.int p3), (.int p4), (.int p5)] below meth c s₁ [] 0 0 := Stand.of_body Bd
  have e0 : s₁.heap = h0 := by rw [← hh, Bd.state]; rfl
  have N0 := Fr.nil n0
  show EndsW p.tables e below s (fun v h L => Q0 Z p1 p2 p3 p4 p5 a_UNIVERSAL a_APPLICATION a_CONTEXT_SPECIFIC a_PRIVATE aC clC h0 n0 v h L) 16 1152 _
  refine EndsW.go (b := s₁.setTop (mkF m 0 #[.val (.int p1), .val (.int p2), .val (.int p3), .val (.int p4), .val (.int p5), .unset, .unset, .unset, .unset, .unset, .unset, .unset, .unset] [])) (fun t k => castTop (ef_0 m p1 p2 p3 p4 p5) k) ?_
  have hS0 : s.Since s.vm s.heap.size := (State.WarmedH.refl s).since _
  have hk0 : s.heap.size ≤ h0.size := Nat.le_of_eq (congrArg Array.size hh)
  have hZ : Z.Warmed39 (s.setVm s.vm).vm := hZ
  have hown : (s.setVm s.vm).vm.findClass "com/example/tagform/tagform/schema/TagEqualsPinLaw" = some m.cls := hown
  refine EndsW.go (b := s₁.setTop (mkF m 5 #[.val (.int p1), .val (.int p2), .val (.int p3), .val (.int p4), .val (.int p5), .val (.int (p1 &&& (3 : Int32))), .unset, .unset, .unset, .unset, .unset, .unset, .unset] [])) (fun t k => ?_) ?_
  · show Steps p.tables e below (s₁.setTop (mkF m 0 #[.val (.int p1), .val (.int p2), .val (.int p3), .val (.int p4), .val (.int p5), .unset, .unset, .unset, .unset, .unset, .unset, .unset, .unset] [])) _
    refine XS.iloadN X0.here hx rfl (hb hby at_0) rfl ?_
    show Steps p.tables e below (s₁.setTop (mkF m 1 #[.val (.int p1), .val (.int p2), .val (.int p3), .val (.int p4), .val (.int p5), .unset, .unset, .unset, .unset, .unset, .unset, .unset, .unset] [(.int p1)])) _
    refine XS.iconst X0.here hx rfl (hb hby at_1) ?_
    show Steps p.tables e below (s₁.setTop (mkF m 2 #[.val (.int p1), .val (.int p2), .val (.int p3), .val (.int p4), .val (.int p5), .unset, .unset, .unset, .unset, .unset, .unset, .unset, .unset] [(.int (3 : Int32)), (.int p1)])) _
    refine XS.iand X0.here hx rfl (hb hby at_2) rfl ?_
    show Steps p.tables e below (s₁.setTop (mkF m 3 #[.val (.int p1), .val (.int p2), .val (.int p3), .val (.int p4), .val (.int p5), .unset, .unset, .unset, .unset, .unset, .unset, .unset, .unset] [(.int (p1 &&& (3 : Int32)))])) _
    refine XS.istore X0.here hx rfl (hb hby at_3) rfl (l' := #[.val (.int p1), .val (.int p2), .val (.int p3), .val (.int p4), .val (.int p5), .val (.int (p1 &&& (3 : Int32))), .unset, .unset, .unset, .unset, .unset, .unset, .unset]) rfl ?_
    show Steps p.tables e below (s₁.setTop (mkF m 5 #[.val (.int p1), .val (.int p2), .val (.int p3), .val (.int p4), .val (.int p5), .val (.int (p1 &&& (3 : Int32))), .unset, .unset, .unset, .unset, .unset, .unset, .unset] [])) _
    exact k
  generalize hv_k1 : (p1 &&& (3 : Int32)) = k1
  have hk1 : k1 = 0 ∨ k1 = 1 ∨ k1 = 2 ∨ k1 = 3 := by rw [← hv_k1]; exact own_k4 p1
  show EndsW _ _ _ _ _ _ _ (s₁.setTop (mkF m 5 #[.val (.int p1), .val (.int p2), .val (.int p3), .val (.int p4), .val (.int p5), .val (.int k1), .unset, .unset, .unset, .unset, .unset, .unset, .unset] []))
  refine EndsW.go (b := s₁.setTop (mkF m 10 #[.val (.int p1), .val (.int p2), .val (.int p3), .val (.int p4), .val (.int p5), .val (.int k1), .val (.int (p3 &&& (3 : Int32))), .unset, .unset, .unset, .unset, .unset, .unset] [])) (fun t k => ?_) ?_
  · show Steps p.tables e below (s₁.setTop (mkF m 5 #[.val (.int p1), .val (.int p2), .val (.int p3), .val (.int p4), .val (.int p5), .val (.int k1), .unset, .unset, .unset, .unset, .unset, .unset, .unset] [])) _
    refine XS.iloadN X0.here hx rfl (hb hby at_5) rfl ?_
    show Steps p.tables e below (s₁.setTop (mkF m 6 #[.val (.int p1), .val (.int p2), .val (.int p3), .val (.int p4), .val (.int p5), .val (.int k1), .unset, .unset, .unset, .unset, .unset, .unset, .unset] [(.int p3)])) _
    refine XS.iconst X0.here hx rfl (hb hby at_6) ?_
    show Steps p.tables e below (s₁.setTop (mkF m 7 #[.val (.int p1), .val (.int p2), .val (.int p3), .val (.int p4), .val (.int p5), .val (.int k1), .unset, .unset, .unset, .unset, .unset, .unset, .unset] [(.int (3 : Int32)), (.int p3)])) _
    refine XS.iand X0.here hx rfl (hb hby at_7) rfl ?_
    show Steps p.tables e below (s₁.setTop (mkF m 8 #[.val (.int p1), .val (.int p2), .val (.int p3), .val (.int p4), .val (.int p5), .val (.int k1), .unset, .unset, .unset, .unset, .unset, .unset, .unset] [(.int (p3 &&& (3 : Int32)))])) _
    refine XS.istore X0.here hx rfl (hb hby at_8) rfl (l' := #[.val (.int p1), .val (.int p2), .val (.int p3), .val (.int p4), .val (.int p5), .val (.int k1), .val (.int (p3 &&& (3 : Int32))), .unset, .unset, .unset, .unset, .unset, .unset]) rfl ?_
    show Steps p.tables e below (s₁.setTop (mkF m 10 #[.val (.int p1), .val (.int p2), .val (.int p3), .val (.int p4), .val (.int p5), .val (.int k1), .val (.int (p3 &&& (3 : Int32))), .unset, .unset, .unset, .unset, .unset, .unset] [])) _
    exact k
  generalize hv_k2 : (p3 &&& (3 : Int32)) = k2
  have hk2 : k2 = 0 ∨ k2 = 1 ∨ k2 = 2 ∨ k2 = 3 := by rw [← hv_k2]; exact own_k4 p3
  show EndsW _ _ _ _ _ _ _ (s₁.setTop (mkF m 10 #[.val (.int p1), .val (.int p2), .val (.int p3), .val (.int p4), .val (.int p5), .val (.int k1), .val (.int k2), .unset, .unset, .unset, .unset, .unset, .unset] []))
  refine EndsW.go (b := s₁.setTop (mkF m 16 #[.val (.int p1), .val (.int p2), .val (.int p3), .val (.int p4), .val (.int p5), .val (.int k1), .val (.int k2), .val (.int (p2 &&& (2147483647 : Int32))), .unset, .unset, .unset, .unset, .unset] [])) (fun t k => ?_) ?_
  · show Steps p.tables e below (s₁.setTop (mkF m 10 #[.val (.int p1), .val (.int p2), .val (.int p3), .val (.int p4), .val (.int p5), .val (.int k1), .val (.int k2), .unset, .unset, .unset, .unset, .unset, .unset] [])) _
    refine XS.iloadN X0.here hx rfl (hb hby at_10) rfl ?_
    show Steps p.tables e below (s₁.setTop (mkF m 11 #[.val (.int p1), .val (.int p2), .val (.int p3), .val (.int p4), .val (.int p5), .val (.int k1), .val (.int k2), .unset, .unset, .unset, .unset, .unset, .unset] [(.int p2)])) _
    refine X0.ldcInt hx hown (mvT hZ (hw _ (List.mem_of_getElem? (i := 0) rfl))) (g := (mkF m 11 #[.val (.int p1), .val (.int p2), .val (.int p3), .val (.int p4), .val (.int p5), .val (.int k1), .val (.int k2), .unset, .unset, .unset, .unset, .unset, .unset] [(.int p2)])) rfl (hb hby at_11) _ ?_
    show Steps p.tables e below (s₁.setTop (mkF m 13 #[.val (.int p1), .val (.int p2), .val (.int p3), .val (.int p4), .val (.int p5), .val (.int k1), .val (.int k2), .unset, .unset, .unset, .unset, .unset, .unset] [(.int (2147483647 : Int32)), (.int p2)])) _
    refine XS.iand X0.here hx rfl (hb hby at_13) rfl ?_
    show Steps p.tables e below (s₁.setTop (mkF m 14 #[.val (.int p1), .val (.int p2), .val (.int p3), .val (.int p4), .val (.int p5), .val (.int k1), .val (.int k2), .unset, .unset, .unset, .unset, .unset, .unset] [(.int (p2 &&& (2147483647 : Int32)))])) _
    refine XS.istore X0.here hx rfl (hb hby at_14) rfl (l' := #[.val (.int p1), .val (.int p2), .val (.int p3), .val (.int p4), .val (.int p5), .val (.int k1), .val (.int k2), .val (.int (p2 &&& (2147483647 : Int32))), .unset, .unset, .unset, .unset, .unset]) rfl ?_
    show Steps p.tables e below (s₁.setTop (mkF m 16 #[.val (.int p1), .val (.int p2), .val (.int p3), .val (.int p4), .val (.int p5), .val (.int k1), .val (.int k2), .val (.int (p2 &&& (2147483647 : Int32))), .unset, .unset, .unset, .unset, .unset] [])) _
    exact k
  generalize hv_m1 : (p2 &&& (2147483647 : Int32)) = m1
  have hm1 : ¬ m1 < (0 : Int32) := by rw [← hv_m1]; exact own_nn p2
  show EndsW _ _ _ _ _ _ _ (s₁.setTop (mkF m 16 #[.val (.int p1), .val (.int p2), .val (.int p3), .val (.int p4), .val (.int p5), .val (.int k1), .val (.int k2), .val (.int m1), .unset, .unset, .unset, .unset, .unset] []))
  refine EndsW.go (b := s₁.setTop (mkF m 20 #[.val (.int p1), .val (.int p2), .val (.int p3), .val (.int p4), .val (.int p5), .val (.int k1), .val (.int k2), .val (.int m1), .unset, .unset, .unset, .unset, .unset] [(.int (p5 &&& (1 : Int32)))])) (fun t k => ?_) ?_
  · show Steps p.tables e below (s₁.setTop (mkF m 16 #[.val (.int p1), .val (.int p2), .val (.int p3), .val (.int p4), .val (.int p5), .val (.int k1), .val (.int k2), .val (.int m1), .unset, .unset, .unset, .unset, .unset] [])) _
    refine XS.iload X0.here hx rfl (hb hby at_16) rfl ?_
    show Steps p.tables e below (s₁.setTop (mkF m 18 #[.val (.int p1), .val (.int p2), .val (.int p3), .val (.int p4), .val (.int p5), .val (.int k1), .val (.int k2), .val (.int m1), .unset, .unset, .unset, .unset, .unset] [(.int p5)])) _
    refine XS.iconst X0.here hx rfl (hb hby at_18) ?_
    show Steps p.tables e below (s₁.setTop (mkF m 19 #[.val (.int p1), .val (.int p2), .val (.int p3), .val (.int p4), .val (.int p5), .val (.int k1), .val (.int k2), .val (.int m1), .unset, .unset, .unset, .unset, .unset] [(.int (1 : Int32)), (.int p5)])) _
    refine XS.iand X0.here hx rfl (hb hby at_19) rfl ?_
    show Steps p.tables e below (s₁.setTop (mkF m 20 #[.val (.int p1), .val (.int p2), .val (.int p3), .val (.int p4), .val (.int p5), .val (.int k1), .val (.int k2), .val (.int m1), .unset, .unset, .unset, .unset, .unset] [(.int (p5 &&& (1 : Int32)))])) _
    exact k
  refine EndsW.go (b := s₁.setTop (mkF m 32 #[.val (.int p1), .val (.int p2), .val (.int p3), .val (.int p4), .val (.int p5), .val (.int k1), .val (.int k2), .val (.int m1), .unset, .unset, .unset, .unset, .unset] [(.int (if (p5 &&& (1 : Int32)) = (0 : Int32) then (p4 &&& (2147483647 : Int32)) else m1))])) (fun t k => ?_) ?_
  · by_cases hc20_101 : (p5 &&& (1 : Int32)) = (0 : Int32)
    · refine XS.ifYes X0.here hx rfl (pc0 := 20) (pc' := 28) rfl (hb hby at_20) rfl ((if0 _ _).trans (teq hc20_101).1) (by decide) (by decide) ?_
      show Steps p.tables e below (s₁.setTop (mkF m 28 #[.val (.int p1), .val (.int p2), .val (.int p3), .val (.int p4), .val (.int p5), .val (.int k1), .val (.int k2), .val (.int m1), .unset, .unset, .unset, .unset, .unset] [])) _
      refine XS.iloadN X0.here hx rfl (hb hby at_28) rfl ?_
      show Steps p.tables e below (s₁.setTop (mkF m 29 #[.val (.int p1), .val (.int p2), .val (.int p3), .val (.int p4), .val (.int p5), .val (.int k1), .val (.int k2), .val (.int m1), .unset, .unset, .unset, .unset, .unset] [(.int p4)])) _
      refine X0.ldcInt hx hown (mvT hZ (hw _ (List.mem_of_getElem? (i := 0) rfl))) (g := (mkF m 29 #[.val (.int p1), .val (.int p2), .val (.int p3), .val (.int p4), .val (.int p5), .val (.int k1), .val (.int k2), .val (.int m1), .unset, .unset, .unset, .unset, .unset] [(.int p4)])) rfl (hb hby at_29) _ ?_
      show Steps p.tables e below (s₁.setTop (mkF m 31 #[.val (.int p1), .val (.int p2), .val (.int p3), .val (.int p4), .val (.int p5), .val (.int k1), .val (.int k2), .val (.int m1), .unset, .unset, .unset, .unset, .unset] [(.int (2147483647 : Int32)), (.int p4)])) _
      refine XS.iand X0.here hx rfl (hb hby at_31) rfl ?_
      show Steps p.tables e below (s₁.setTop (mkF m 32 #[.val (.int p1), .val (.int p2), .val (.int p3), .val (.int p4), .val (.int p5), .val (.int k1), .val (.int k2), .val (.int m1), .unset, .unset, .unset, .unset, .unset] [(.int (p4 &&& (2147483647 : Int32)))])) _
      have j0 : (if (p5 &&& (1 : Int32)) = (0 : Int32) then (p4 &&& (2147483647 : Int32)) else m1) = (p4 &&& (2147483647 : Int32)) := by rw [if_pos hc20_101]
      rw [j0] at k
      exact k
    · refine XS.ifNo X0.here hx rfl (hb hby at_20) rfl ((if0 _ _).trans (feq hc20_101).1) ?_
      show Steps p.tables e below (s₁.setTop (mkF m 23 #[.val (.int p1), .val (.int p2), .val (.int p3), .val (.int p4), .val (.int p5), .val (.int k1), .val (.int k2), .val (.int m1), .unset, .unset, .unset, .unset, .unset] [])) _
      refine XS.iload X0.here hx rfl (hb hby at_23) rfl ?_
      show Steps p.tables e below (s₁.setTop (mkF m 25 #[.val (.int p1), .val (.int p2), .val (.int p3), .val (.int p4), .val (.int p5), .val (.int k1), .val (.int k2), .val (.int m1), .unset, .unset, .unset, .unset, .unset] [(.int m1)])) _
      refine XS.goto X0.here hx rfl (pc0 := 25) (pc' := 32) rfl (hb hby at_25) (by decide) (by decide) ?_
      show Steps p.tables e below (s₁.setTop (mkF m 32 #[.val (.int p1), .val (.int p2), .val (.int p3), .val (.int p4), .val (.int p5), .val (.int k1), .val (.int k2), .val (.int m1), .unset, .unset, .unset, .unset, .unset] [(.int m1)])) _
      have j0 : (if (p5 &&& (1 : Int32)) = (0 : Int32) then (p4 &&& (2147483647 : Int32)) else m1) = m1 := by rw [if_neg hc20_101]
      rw [j0] at k
      exact k
  generalize hv_m2 : (if (p5 &&& (1 : Int32)) = (0 : Int32) then (p4 &&& (2147483647 : Int32)) else m1) = m2
  have hm2 : ¬ m2 < (0 : Int32) := by
    rw [← hv_m2]
    split
    · exact own_nn p4
    · exact hm1
  show EndsW _ _ _ _ _ _ _ (s₁.setTop (mkF m 32 #[.val (.int p1), .val (.int p2), .val (.int p3), .val (.int p4), .val (.int p5), .val (.int k1), .val (.int k2), .val (.int m1), .unset, .unset, .unset, .unset, .unset] [(.int m2)]))
  refine EndsW.go (b := s₁.setTop (mkF m 34 #[.val (.int p1), .val (.int p2), .val (.int p3), .val (.int p4), .val (.int p5), .val (.int k1), .val (.int k2), .val (.int m1), .val (.int m2), .unset, .unset, .unset, .unset] [])) (fun t k => ?_) ?_
  · show Steps p.tables e below (s₁.setTop (mkF m 32 #[.val (.int p1), .val (.int p2), .val (.int p3), .val (.int p4), .val (.int p5), .val (.int k1), .val (.int k2), .val (.int m1), .unset, .unset, .unset, .unset, .unset] [(.int m2)])) _
    refine XS.istore X0.here hx rfl (hb hby at_32) rfl (l' := #[.val (.int p1), .val (.int p2), .val (.int p3), .val (.int p4), .val (.int p5), .val (.int k1), .val (.int k2), .val (.int m1), .val (.int m2), .unset, .unset, .unset, .unset]) rfl ?_
    show Steps p.tables e below (s₁.setTop (mkF m 34 #[.val (.int p1), .val (.int p2), .val (.int p3), .val (.int p4), .val (.int p5), .val (.int k1), .val (.int k2), .val (.int m1), .val (.int m2), .unset, .unset, .unset, .unset] [])) _
    exact k
  obtain ⟨T102, h102, X102, e102, E102, A102, D102, -, st102⟩ := newO X0 hx hZ hown (hw _ (List.mem_of_getElem? (i := 1) rfl)) (hw _ (List.mem_of_getElem? (i := 2) rfl)) (hw _ (List.mem_of_getElem? (i := 3) rfl)) e0 (g := (mkF m 34 #[.val (.int p1), .val (.int p2), .val (.int p3), .val (.int p4), .val (.int p5), .val (.int k1), .val (.int k2), .val (.int m1), .val (.int m2), .unset, .unset, .unset, .unset] [])) rfl (hb hby at_34) (by decide) (by decide)
  obtain ⟨b102, g102⟩ : ∃ z, z = h0.size := ⟨_, rfl⟩
  rw [← g102] at A102 D102 st102
  have gn102 : n0 ≤ b102 := Nat.le_trans Z0 (Nat.le_of_eq g102.symm)
  have ne102_a_UNIVERSAL : a_UNIVERSAL ≠ b102 := Nat.ne_of_lt (Nat.lt_of_lt_of_le E_UNIVERSAL.lt (Nat.le_of_eq g102.symm))
  have ne102_a_APPLICATION : a_APPLICATION ≠ b102 := Nat.ne_of_lt (Nat.lt_of_lt_of_le E_APPLICATION.lt (Nat.le_of_eq g102.symm))
  have ne102_a_CONTEXT_SPECIFIC : a_CONTEXT_SPECIFIC ≠ b102 := Nat.ne_of_lt (Nat.lt_of_lt_of_le E_CONTEXT_SPECIFIC.lt (Nat.le_of_eq g102.symm))
  have ne102_a_PRIVATE : a_PRIVATE ≠ b102 := Nat.ne_of_lt (Nat.lt_of_lt_of_le E_PRIVATE.lt (Nat.le_of_eq g102.symm))
  have f103 : Sta Z h102 "com/example/tagform/tagform/ber/TagClass" "UNIVERSAL" "Lcom/example/tagform/tagform/ber/TagClass;" (.ref a_UNIVERSAL) := S_UNIVERSAL.ext E102
  have f104 : Sta Z h102 "com/example/tagform/tagform/ber/TagClass" "APPLICATION" "Lcom/example/tagform/tagform/ber/TagClass;" (.ref a_APPLICATION) := S_APPLICATION.ext E102
  have f105 : Sta Z h102 "com/example/tagform/tagform/ber/TagClass" "CONTEXT_SPECIFIC" "Lcom/example/tagform/tagform/ber/TagClass;" (.ref a_CONTEXT_SPECIFIC) := S_CONTEXT_SPECIFIC.ext E102
  have f106 : Sta Z h102 "com/example/tagform/tagform/ber/TagClass" "PRIVATE" "Lcom/example/tagform/tagform/ber/TagClass;" (.ref a_PRIVATE) := S_PRIVATE.ext E102
  have f107 : Sta Z h102 "java/lang/Integer$IntegerCache" "high" "I" (.int (127 : Int32)) := S_high.ext E102
  have f108 : Sta Z h102 "java/lang/Integer$IntegerCache" "cache" "[Ljava/lang/Integer;" (.ref aC) := S_cache.ext E102
  have f109 : Old Z n0 h102 := O1.ext E102
  have f110 : Exa Z h102 a_UNIVERSAL "com/example/tagform/tagform/ber/TagClass" := E_UNIVERSAL.ext E102
  have f111 : Exa Z h102 a_APPLICATION "com/example/tagform/tagform/ber/TagClass" := E_APPLICATION.ext E102
  have f112 : Exa Z h102 a_CONTEXT_SPECIFIC "com/example/tagform/tagform/ber/TagClass" := E_CONTEXT_SPECIFIC.ext E102
  have f113 : Exa Z h102 a_PRIVATE "com/example/tagform/tagform/ber/TagClass" := E_PRIVATE.ext E102
  have f114 : n0 ≤ h102.size := Nat.le_trans Z0 E102.1
  have f115 : s.heap.size ≤ h102.size := Nat.le_trans hk0 E102.1
  have f116 : Fld Z h102 b102 "com/example/tagform/tagform/schema/Tag" "tagClass" "Lcom/example/tagform/tagform/ber/TagClass;" .null := D102 (Or.inr (hw _ (List.mem_of_getElem? (i := 32) rfl))) (ty := (.object "com/example/tagform/tagform/ber/TagClass")) (by decide)
  have f117 : Fld Z h102 b102 "com/example/tagform/tagform/schema/Tag" "number" "I" (.int (0 : Int32)) := D102 (Or.inr (hw _ (List.mem_of_getElem? (i := 34) rfl))) (ty := .int) (by decide)
  refine EndsW.go st102 ?_
  show EndsW _ _ _ _ _ _ _ (T102.setTop (mkF m 37 #[.val (.int p1), .val (.int p2), .val (.int p3), .val (.int p4), .val (.int p5), .val (.int k1), .val (.int k2), .val (.int m1), .val (.int m2), .unset, .unset, .unset, .unset] [(.ref b102)]))
  refine EndsW.go (b := T102.setTop (mkF m 40 #[.val (.int p1), .val (.int p2), .val (.int p3), .val (.int p4), .val (.int p5), .val (.int k1), .val (.int k2), .val (.int m1), .val (.int m2), .unset, .unset, .unset, .unset] [(.int k1), (.ref b102), (.ref b102)])) (fun t k => ?_) ?_
  · show Steps p.tables e below (T102.setTop (mkF m 37 #[.val (.int p1), .val (.int p2), .val (.int p3), .val (.int p4), .val (.int p5), .val (.int k1), .val (.int k2), .val (.int m1), .val (.int m2), .unset, .unset, .unset, .unset] [(.ref b102)])) _
    refine XS.dup X102.here hx rfl (hb hby at_37) rfl rfl ?_
    show Steps p.tables e below (T102.setTop (mkF m 38 #[.val (.int p1), .val (.int p2), .val (.int p3), .val (.int p4), .val (.int p5), .val (.int k1), .val (.int k2), .val (.int m1), .val (.int m2), .unset, .unset, .unset, .unset] [(.ref b102), (.ref b102)])) _
    refine XS.iload X102.here hx rfl (hb hby at_38) rfl ?_
    show Steps p.tables e below (T102.setTop (mkF m 40 #[.val (.int p1), .val (.int p2), .val (.int p3), .val (.int p4), .val (.int p5), .val (.int k1), .val (.int k2), .val (.int m1), .val (.int m2), .unset, .unset, .unset, .unset] [(.int k1), (.ref b102), (.ref b102)])) _
    exact k
  obtain ⟨_, _, ⟨T118, L118, kk118, nn118⟩, -, X118, ⟨Lc118, hQ118, l118, y118, z118⟩, st118⟩ := Jvm.LawKit.callS X102 hx (y := (⟨"com/example/tagform/tagform/schema/TagEqualsPinLaw", "cls", "(I)Lcom/example/tagform/tagform/ber/TagClass;"⟩ : MethodName)) hown (mvT hZ (hw _ (List.mem_of_getElem? (i := 4) rfl))) (mvT hZ (hw _ (List.mem_of_getElem? (i := 5) rfl))) (mvT hZ (hw _ (List.mem_of_getElem? (i := 6) rfl))) (mvT hZ (hw _ (List.mem_of_getElem? (i := 7) rfl))) (by decide) (backOf (W := 2) (rm1 l Z a0 hw [] k1 a_UNIVERSAL a_APPLICATION a_CONTEXT_SPECIFIC a_PRIVATE h102 n0 f114 f103 f104 f105 f106) hZ (hw _ (List.mem_of_getElem? (i := 7) rfl)) (hw _ (List.mem_of_getElem? (i := 6) rfl)) (by decide) (by decide)) (g := (mkF m 40 #[.val (.int p1), .val (.int p2), .val (.int p3), .val (.int p4), .val (.int p5), .val (.int k1), .val (.int k2), .val (.int m1), .val (.int m2), .unset, .unset, .unset, .unset] [(.int k1), (.ref b102), (.ref b102)])) rfl (by rw [hml]; rfl) (argsL := [(.int k1)]) (rest := [(.ref b102), (.ref b102)]) (lenOf pd_3 rfl) rfl (by show 2 * 0 + _ ≤ _; exact Nat.le_of_eq rfl) (hb hby at_40) (fun _ _ => ⟨rfl, e102, (by decide : 1 + 0 ≤ _), (by decide : 2 + 0 ≤ _)⟩)
  dsimp only [Pt.U, Pt.locs, Pt.cells, Pt.slots] at X118 l118 y118 z118 st118 hQ118
  subst l118 y118 z118
  obtain ⟨rfl, Nq118, eq118⟩ := hQ118
  have N118 := Fr.app N0 Nq118
  refine EndsW.go st118 ?_
  show EndsW _ _ _ _ _ _ _ (T118.setTop (mkF m 43 #[.val (.int p1), .val (.int p2), .val (.int p3), .val (.int p4), .val (.int p5), .val (.int k1), .val (.int k2), .val (.int m1), .val (.int m2), .unset, .unset, .unset, .unset] [(.ref (own_cls k1 a_UNIVERSAL a_APPLICATION a_CONTEXT_SPECIFIC a_PRIVATE)), (.ref b102), (.ref b102)]))
  refine EndsW.go (b := T118.setTop (mkF m 45 #[.val (.int p1), .val (.int p2), .val (.int p3), .val (.int p4), .val (.int p5), .val (.int k1), .val (.int k2), .val (.int m1), .val (.int m2), .unset, .unset, .unset, .unset] [(.int m1), (.ref (own_cls k1 a_UNIVERSAL a_APPLICATION a_CONTEXT_SPECIFIC a_PRIVATE)), (.ref b102), (.ref b102)])) (fun t k => ?_) ?_
  · show Steps p.tables e below (T118.setTop (mkF m 43 #[.val (.int p1), .val (.int p2), .val (.int p3), .val (.int p4), .val (.int p5), .val (.int k1), .val (.int k2), .val (.int m1), .val (.int m2), .unset, .unset, .unset, .unset] [(.ref (own_cls k1 a_UNIVERSAL a_APPLICATION a_CONTEXT_SPECIFIC a_PRIVATE)), (.ref b102), (.ref b102)])) _
    refine XS.iload X118.here hx rfl (hb hby at_43) rfl ?_
    show Steps p.tables e below (T118.setTop (mkF m 45 #[.val (.int p1), .val (.int p2), .val (.int p3), .val (.int p4), .val (.int p5), .val (.int k1), .val (.int k2), .val (.int m1), .val (.int m2), .unset, .unset, .unset, .unset] [(.int m1), (.ref (own_cls k1 a_UNIVERSAL a_APPLICATION a_CONTEXT_SPECIFIC a_PRIVATE)), (.ref b102), (.ref b102)])) _
    exact k
  obtain ⟨_, _, ⟨T119, L119, kk119, nn119⟩, -, Y119, hs119, hg119, ⟨Lc119, hQ119, l119, y119, z119⟩, st119⟩ := X118.specialBackS hx (y := (⟨"com/example/tagform/tagform/schema/Tag", "<init>", "(Lcom/example/tagform/tagform/ber/TagClass;I)V"⟩ : MethodName)) rfl hown (mvT hZ (hw _ (List.mem_of_getElem? (i := 11) rfl))) (mvT hZ (hw _ (List.mem_of_getElem? (i := 12) rfl))) (mvT hZ (hw _ (List.mem_of_getElem? (i := 13) rfl))) (by decide) (backOfS (W := 1) (rm2 l Z a0 hw [] b102 (own_cls k1 a_UNIVERSAL a_APPLICATION a_CONTEXT_SPECIFIC a_PRIVATE) m1 h102 n0 f114 f116 f117 A102 gn102 (own_exa k1 f110 f111 f112 f113) hm1) hZ (hw _ (List.mem_of_getElem? (i := 13) rfl)) (hw _ (List.mem_of_getElem? (i := 3) rfl)) (by decide) (by decide)) (g := (mkF m 45 #[.val (.int p1), .val (.int p2), .val (.int p3), .val (.int p4), .val (.int p5), .val (.int k1), .val (.int k2), .val (.int m1), .val (.int m2), .unset, .unset, .unset, .unset] [(.int m1), (.ref (own_cls k1 a_UNIVERSAL a_APPLICATION a_CONTEXT_SPECIFIC a_PRIVATE)), (.ref b102), (.ref b102)])) rfl (by rw [hml]; rfl) (Steps.refl _) (a := b102) (argsL := [(.ref (own_cls k1 a_UNIVERSAL a_APPLICATION a_CONTEXT_SPECIFIC a_PRIVATE)), (.int m1)]) (rest := [(.ref b102)]) (lenOf pd_4 rfl) rfl (by show 2 * 0 + _ ≤ _; exact Nat.le_of_eq rfl) (hb hby at_45) (fun _ _ => ⟨rfl, eq118, (by decide : 1 + 2 ≤ _), (by decide : 2 + 36 ≤ _)⟩)
  dsimp only [Pt.U, Pt.locs, Pt.cells, Pt.slots] at Y119 hs119 hg119 l119 y119 z119 st119 hQ119
  subst l119 y119 z119
  obtain ⟨rfl, Nq119, K119, Ex119, F119_tagClass, F119_number⟩ := hQ119
  obtain ⟨X119, hS119, hZ119, hown119⟩ := rebS hS0 (by rw [eq118]; exact f115) Y119 hs119 hg119 hZ hown
  have N119 := Fr.app N118 Nq119
  have f120 : Sta Z T119.heap "com/example/tagform/tagform/ber/TagClass" "UNIVERSAL" "Lcom/example/tagform/tagform/ber/TagClass;" (.ref a_UNIVERSAL) := own_sta_keep f103 K119 A102
  have f121 : Sta Z T119.heap "com/example/tagform/tagform/ber/TagClass" "APPLICATION" "Lcom/example/tagform/tagform/ber/TagClass;" (.ref a_APPLICATION) := own_sta_keep f104 K119 A102
  have f122 : Sta Z T119.heap "com/example/tagform/tagform/ber/TagClass" "CONTEXT_SPECIFIC" "Lcom/example/tagform/tagform/ber/TagClass;" (.ref a_CONTEXT_SPECIFIC) := own_sta_keep f105 K119 A102
  have f123 : Sta Z T119.heap "com/example/tagform/tagform/ber/TagClass" "PRIVATE" "Lcom/example/tagform/tagform/ber/TagClass;" (.ref a_PRIVATE) := own_sta_keep f106 K119 A102
  have f124 : Sta Z T119.heap "java/lang/Integer$IntegerCache" "high" "I" (.int (127 : Int32)) := own_sta_keep f107 K119 A102
  have f125 : Sta Z T119.heap "java/lang/Integer$IntegerCache" "cache" "[Ljava/lang/Integer;" (.ref aC) := own_sta_keep f108 K119 A102
  have f126 : Old Z n0 T119.heap := f109.keep K119 (allS gn102 all0)
  have f127 : Exa Z T119.heap a_UNIVERSAL "com/example/tagform/tagform/ber/TagClass" := f110.keep K119
  have f128 : Exa Z T119.heap a_APPLICATION "com/example/tagform/tagform/ber/TagClass" := f111.keep K119
  have f129 : Exa Z T119.heap a_CONTEXT_SPECIFIC "com/example/tagform/tagform/ber/TagClass" := f112.keep K119
  have f130 : Exa Z T119.heap a_PRIVATE "com/example/tagform/tagform/ber/TagClass" := f113.keep K119
  have f131 : n0 ≤ T119.heap.size := Nat.le_trans f114 K119.1
  refine EndsW.go (fun t k => st119.trans k) ?_
  show EndsW _ _ _ _ _ _ _ (T119.setTop (mkF m 48 #[.val (.int p1), .val (.int p2), .val (.int p3), .val (.int p4), .val (.int p5), .val (.int k1), .val (.int k2), .val (.int m1), .val (.int m2), .unset, .unset, .unset, .unset] [(.ref b102)]))
  refine EndsW.go (b := T119.setTop (mkF m 50 #[.val (.int p1), .val (.int p2), .val (.int p3), .val (.int p4), .val (.int p5), .val (.int k1), .val (.int k2), .val (.int m1), .val (.int m2), .val (.ref b102), .unset, .unset, .unset] [])) (fun t k => ?_) ?_
  · show Steps p.tables e below (T119.setTop (mkF m 48 #[.val (.int p1), .val (.int p2), .val (.int p3), .val (.int p4), .val (.int p5), .val (.int k1), .val (.int k2), .val (.int m1), .val (.int m2), .unset, .unset, .unset, .unset] [(.ref b102)])) _
    refine XS.astore X119.here hx rfl (hb hby at_48) rfl rfl (l' := #[.val (.int p1), .val (.int p2), .val (.int p3), .val (.int p4), .val (.int p5), .val (.int k1), .val (.int k2), .val (.int m1), .val (.int m2), .val (.ref b102), .unset, .unset, .unset]) rfl ?_
    show Steps p.tables e below (T119.setTop (mkF m 50 #[.val (.int p1), .val (.int p2), .val (.int p3), .val (.int p4), .val (.int p5), .val (.int k1), .val (.int k2), .val (.int m1), .val (.int m2), .val (.ref b102), .unset, .unset, .unset] [])) _
    exact k
  obtain ⟨T132, h132, X132, e132, E132, A132, D132, -, st132⟩ := newO X119 hx hZ119 hown119 (hw _ (List.mem_of_getElem? (i := 1) rfl)) (hw _ (List.mem_of_getElem? (i := 2) rfl)) (hw _ (List.mem_of_getElem? (i := 3) rfl)) rfl (g := (mkF m 50 #[.val (.int p1), .val (.int p2), .val (.int p3), .val (.int p4), .val (.int p5), .val (.int k1), .val (.int k2), .val (.int m1), .val (.int m2), .val (.ref b102), .unset, .unset, .unset] [])) rfl (hb hby at_50) (by decide) (by decide)
  obtain ⟨b132, g132⟩ : ∃ z, z = T119.heap.size := ⟨_, rfl⟩
  rw [← g132] at A132 D132 st132
  have gn132 : n0 ≤ b132 := Nat.le_trans f131 (Nat.le_of_eq g132.symm)
  have ne132_a_UNIVERSAL : a_UNIVERSAL ≠ b132 := Nat.ne_of_lt (Nat.lt_of_lt_of_le f127.lt (Nat.le_of_eq g132.symm))
  have ne132_a_APPLICATION : a_APPLICATION ≠ b132 := Nat.ne_of_lt (Nat.lt_of_lt_of_le f128.lt (Nat.le_of_eq g132.symm))
  have ne132_a_CONTEXT_SPECIFIC : a_CONTEXT_SPECIFIC ≠ b132 := Nat.ne_of_lt (Nat.lt_of_lt_of_le f129.lt (Nat.le_of_eq g132.symm))
  have ne132_a_PRIVATE : a_PRIVATE ≠ b132 := Nat.ne_of_lt (Nat.lt_of_lt_of_le f130.lt (Nat.le_of_eq g132.symm))
  have ne132_b102 : b102 ≠ b132 := Nat.ne_of_lt (Nat.lt_of_lt_of_le Ex119.lt (Nat.le_of_eq g132.symm))
  have f133 : Sta Z h132 "com/example/tagform/tagform/ber/TagClass" "UNIVERSAL" "Lcom/example/tagform/tagform/ber/TagClass;" (.ref a_UNIVERSAL) := f120.ext E132
  have f134 : Sta Z h132 "com/example/tagform/tagform/ber/TagClass" "APPLICATION" "Lcom/example/tagform/tagform/ber/TagClass;" (.ref a_APPLICATION) := f121.ext E132
  have f135 : Sta Z h132 "com/example/tagform/tagform/ber/TagClass" "CONTEXT_SPECIFIC" "Lcom/example/tagform/tagform/ber/TagClass;" (.ref a_CONTEXT_SPECIFIC) := f122.ext E132
  have f136 : Sta Z h132 "com/example/tagform/tagform/ber/TagClass" "PRIVATE" "Lcom/example/tagform/tagform/ber/TagClass;" (.ref a_PRIVATE) := f123.ext E132
  have f137 : Sta Z h132 "java/lang/Integer$IntegerCache" "high" "I" (.int (127 : Int32)) := f124.ext E132
  have f138 : Sta Z h132 "java/lang/Integer$IntegerCache" "cache" "[Ljava/lang/Integer;" (.ref aC) := f125.ext E132
  have f139 : Old Z n0 h132 := f126.ext E132
  have f140 : Exa Z h132 a_UNIVERSAL "com/example/tagform/tagform/ber/TagClass" := f127.ext E132
  have f141 : Exa Z h132 a_APPLICATION "com/example/tagform/tagform/ber/TagClass" := f128.ext E132
  have f142 : Exa Z h132 a_CONTEXT_SPECIFIC "com/example/tagform/tagform/ber/TagClass" := f129.ext E132
  have f143 : Exa Z h132 a_PRIVATE "com/example/tagform/tagform/ber/TagClass" := f130.ext E132
  have f144 : n0 ≤ h132.size := Nat.le_trans f131 E132.1
  have f145 : Exa Z h132 b102 "com/example/tagform/tagform/schema/Tag" := Ex119.ext E132
  have f146 : Fld Z h132 b102 "com/example/tagform/tagform/schema/Tag" "tagClass" "Lcom/example/tagform/tagform/ber/TagClass;" (.ref (own_cls k1 a_UNIVERSAL a_APPLICATION a_CONTEXT_SPECIFIC a_PRIVATE)) := F119_tagClass.ext E132
  have f147 : Fld Z h132 b102 "com/example/tagform/tagform/schema/Tag" "number" "I" (.int m1) := F119_number.ext E132
  have f148 : T119.heap.size ≤ h132.size := Nat.le_trans (Nat.le_refl T119.heap.size) E132.1
  have f149 : Fld Z h132 b132 "com/example/tagform/tagform/schema/Tag" "tagClass" "Lcom/example/tagform/tagform/ber/TagClass;" .null := D132 (Or.inr (hw _ (List.mem_of_getElem? (i := 32) rfl))) (ty := (.object "com/example/tagform/tagform/ber/TagClass")) (by decide)
  have f150 : Fld Z h132 b132 "com/example/tagform/tagform/schema/Tag" "number" "I" (.int (0 : Int32)) := D132 (Or.inr (hw _ (List.mem_of_getElem? (i := 34) rfl))) (ty := .int) (by decide)
  refine EndsW.go st132 ?_
  show EndsW _ _ _ _ _ _ _ (T132.setTop (mkF m 53 #[.val (.int p1), .val (.int p2), .val (.int p3), .val (.int p4), .val (.int p5), .val (.int k1), .val (.int k2), .val (.int m1), .val (.int m2), .val (.ref b102), .unset, .unset, .unset] [(.ref b132)]))
  refine EndsW.go (b := T132.setTop (mkF m 56 #[.val (.int p1), .val (.int p2), .val (.int p3), .val (.int p4), .val (.int p5), .val (.int k1), .val (.int k2), .val (.int m1), .val (.int m2), .val (.ref b102), .unset, .unset, .unset] [(.int k2), (.ref b132), (.ref b132)])) (fun t k => ?_) ?_
  · show Steps p.tables e below (T132.setTop (mkF m 53 #[.val (.int p1), .val (.int p2), .val (.int p3), .val (.int p4), .val (.int p5), .val (.int k1), .val (.int k2), .val (.int m1), .val (.int m2), .val (.ref b102), .unset, .unset, .unset] [(.ref b132)])) _
    refine XS.dup X132.here hx rfl (hb hby at_53) rfl rfl ?_
    show Steps p.tables e below (T132.setTop (mkF m 54 #[.val (.int p1), .val (.int p2), .val (.int p3), .val (.int p4), .val (.int p5), .val (.int k1), .val (.int k2), .val (.int m1), .val (.int m2), .val (.ref b102), .unset, .unset, .unset] [(.ref b132), (.ref b132)])) _
    refine XS.iload X132.here hx rfl (hb hby at_54) rfl ?_
    show Steps p.tables e below (T132.setTop (mkF m 56 #[.val (.int p1), .val (.int p2), .val (.int p3), .val (.int p4), .val (.int p5), .val (.int k1), .val (.int k2), .val (.int m1), .val (.int m2), .val (.ref b102), .unset, .unset, .unset] [(.int k2), (.ref b132), (.ref b132)])) _
    exact k
  obtain ⟨_, _, ⟨T151, L151, kk151, nn151⟩, -, X151, ⟨Lc151, hQ151, l151, y151, z151⟩, st151⟩ := Jvm.LawKit.callS X132 hx (y := (⟨"com/example/tagform/tagform/schema/TagEqualsPinLaw", "cls", "(I)Lcom/example/tagform/tagform/ber/TagClass;"⟩ : MethodName)) hown119 (mvT hZ119 (hw _ (List.mem_of_getElem? (i := 4) rfl))) (mvT hZ119 (hw _ (List.mem_of_getElem? (i := 5) rfl))) (mvT hZ119 (hw _ (List.mem_of_getElem? (i := 6) rfl))) (mvT hZ119 (hw _ (List.mem_of_getElem? (i := 7) rfl))) (by decide) (backOf (W := 2) (rm1 l Z a0 hw [] k2 a_UNIVERSAL a_APPLICATION a_CONTEXT_SPECIFIC a_PRIVATE h132 n0 f144 f133 f134 f135 f136) hZ119 (hw _ (List.mem_of_getElem? (i := 7) rfl)) (hw _ (List.mem_of_getElem? (i := 6) rfl)) (by decide) (by decide)) (g := (mkF m 56 #[.val (.int p1), .val (.int p2), .val (.int p3), .val (.int p4), .val (.int p5), .val (.int k1), .val (.int k2), .val (.int m1), .val (.int m2), .val (.ref b102), .unset, .unset, .unset] [(.int k2), (.ref b132), (.ref b132)])) rfl (by rw [hml]; rfl) (argsL := [(.int k2)]) (rest := [(.ref b132), (.ref b132)]) (lenOf pd_3 rfl) rfl (by show 2 * 0 + _ ≤ _; exact Nat.le_of_eq rfl) (hb hby at_56) (fun _ _ => ⟨rfl, e132, (by decide : 4 + 0 ≤ _), (by decide : 40 + 0 ≤ _)⟩)
  dsimp only [Pt.U, Pt.locs, Pt.cells, Pt.slots] at X151 l151 y151 z151 st151 hQ151
  subst l151 y151 z151
  obtain ⟨rfl, Nq151, eq151⟩ := hQ151
  have N151 := Fr.app N119 Nq151
  refine EndsW.go st151 ?_
  show EndsW _ _ _ _ _ _ _ (T151.setTop (mkF m 59 #[.val (.int p1), .val (.int p2), .val (.int p3), .val (.int p4), .val (.int p5), .val (.int k1), .val (.int k2), .val (.int m1), .val (.int m2), .val (.ref b102), .unset, .unset, .unset] [(.ref (own_cls k2 a_UNIVERSAL a_APPLICATION a_CONTEXT_SPECIFIC a_PRIVATE)), (.ref b132), (.ref b132)]))
  refine EndsW.go (b := T151.setTop (mkF m 61 #[.val (.int p1), .val (.int p2), .val (.int p3), .val (.int p4), .val (.int p5), .val (.int k1), .val (.int k2), .val (.int m1), .val (.int m2), .val (.ref b102), .unset, .unset, .unset] [(.int m2), (.ref (own_cls k2 a_UNIVERSAL a_APPLICATION a_CONTEXT_SPECIFIC a_PRIVATE)), (.ref b132), (.ref b132)])) (fun t k => ?_) ?_
  · show Steps p.tables e below (T151.setTop (mkF m 59 #[.val (.int p1), .val (.int p2), .val (.int p3), .val (.int p4), .val (.int p5), .val (.int k1), .val (.int k2), .val (.int m1), .val (.int m2), .val (.ref b102), .unset, .unset, .unset] [(.ref (own_cls k2 a_UNIVERSAL a_APPLICATION a_CONTEXT_SPECIFIC a_PRIVATE)), (.ref b132), (.ref b132)])) _
    refine XS.iload X151.here hx rfl (hb hby at_59) rfl ?_
    show Steps p.tables e below (T151.setTop (mkF m 61 #[.val (.int p1), .val (.int p2), .val (.int p3), .val (.int p4), .val (.int p5), .val (.int k1), .val (.int k2), .val (.int m1), .val (.int m2), .val (.ref b102), .unset, .unset, .unset] [(.int m2), (.ref (own_cls k2 a_UNIVERSAL a_APPLICATION a_CONTEXT_SPECIFIC a_PRIVATE)), (.ref b132), (.ref b132)])) _
    exact k
  obtain ⟨_, _, ⟨T152, L152, kk152, nn152⟩, -, Y152, hs152, hg152, ⟨Lc152, hQ152, l152, y152, z152⟩, st152⟩ := X151.specialBackS hx (y := (⟨"com/example/tagform/tagform/schema/Tag", "<init>", "(Lcom/example/tagform/tagform/ber/TagClass;I)V"⟩ : MethodName)) rfl hown119 (mvT hZ119 (hw _ (List.mem_of_getElem? (i := 11) rfl))) (mvT hZ119 (hw _ (List.mem_of_getElem? (i := 12) rfl))) (mvT hZ119 (hw _ (List.mem_of_getElem? (i := 13) rfl))) (by decide) (backOfS (W := 1) (rm2 l Z a0 hw [] b132 (own_cls k2 a_UNIVERSAL a_APPLICATION a_CONTEXT_SPECIFIC a_PRIVATE) m2 h132 n0 f144 f149 f150 A132 gn132 (own_exa k2 f140 f141 f142 f143) hm2) hZ119 (hw _ (List.mem_of_getElem? (i := 13) rfl)) (hw _ (List.mem_of_getElem? (i := 3) rfl)) (by decide) (by decide)) (g := (mkF m 61 #[.val (.int p1), .val (.int p2), .val (.int p3), .val (.int p4), .val (.int p5), .val (.int k1), .val (.int k2), .val (.int m1), .val (.int m2), .val (.ref b102), .unset, .unset, .unset] [(.int m2), (.ref (own_cls k2 a_UNIVERSAL a_APPLICATION a_CONTEXT_SPECIFIC a_PRIVATE)), (.ref b132), (.ref b132)])) rfl (by rw [hml]; rfl) (Steps.refl _) (a := b132) (argsL := [(.ref (own_cls k2 a_UNIVERSAL a_APPLICATION a_CONTEXT_SPECIFIC a_PRIVATE)), (.int m2)]) (rest := [(.ref b132)]) (lenOf pd_4 rfl) rfl (by show 2 * 0 + _ ≤ _; exact Nat.le_of_eq rfl) (hb hby at_61) (fun _ _ => ⟨rfl, eq151, (by decide : 4 + 2 ≤ _), (by decide : 40 + 36 ≤ _)⟩)
  dsimp only [Pt.U, Pt.locs, Pt.cells, Pt.slots] at Y152 hs152 hg152 l152 y152 z152 st152 hQ152
  subst l152 y152 z152
  obtain ⟨rfl, Nq152, K152, Ex152, F152_tagClass, F152_number⟩ := hQ152
  obtain ⟨X152, hS152, hZ152, hown152⟩ := rebS hS119 (by rw [eq151]; exact f148) Y152 hs152 hg152 hZ119 hown119
  have N152 := Fr.app N151 Nq152
  have f153 : Sta Z T152.heap "com/example/tagform/tagform/ber/TagClass" "UNIVERSAL" "Lcom/example/tagform/tagform/ber/TagClass;" (.ref a_UNIVERSAL) := own_sta_keep f133 K152 A132
  have f154 : Sta Z T152.heap "com/example/tagform/tagform/ber/TagClass" "APPLICATION" "Lcom/example/tagform/tagform/ber/TagClass;" (.ref a_APPLICATION) := own_sta_keep f134 K152 A132
  have f155 : Sta Z T152.heap "com/example/tagform/tagform/ber/TagClass" "CONTEXT_SPECIFIC" "Lcom/example/tagform/tagform/ber/TagClass;" (.ref a_CONTEXT_SPECIFIC) := own_sta_keep f135 K152 A132
  have f156 : Sta Z T152.heap "com/example/tagform/tagform/ber/TagClass" "PRIVATE" "Lcom/example/tagform/tagform/ber/TagClass;" (.ref a_PRIVATE) := own_sta_keep f136 K152 A132
  have f157 : Sta Z T152.heap "java/lang/Integer$IntegerCache" "high" "I" (.int (127 : Int32)) := own_sta_keep f137 K152 A132
  have f158 : Sta Z T152.heap "java/lang/Integer$IntegerCache" "cache" "[Ljava/lang/Integer;" (.ref aC) := own_sta_keep f138 K152 A132
  have f159 : Old Z n0 T152.heap := f139.keep K152 (allS gn132 all0)
  have f160 : Exa Z T152.heap a_UNIVERSAL "com/example/tagform/tagform/ber/TagClass" := f140.keep K152
  have f161 : Exa Z T152.heap a_APPLICATION "com/example/tagform/tagform/ber/TagClass" := f141.keep K152
  have f162 : Exa Z T152.heap a_CONTEXT_SPECIFIC "com/example/tagform/tagform/ber/TagClass" := f142.keep K152
  have f163 : Exa Z T152.heap a_PRIVATE "com/example/tagform/tagform/ber/TagClass" := f143.keep K152
  have f164 : n0 ≤ T152.heap.size := Nat.le_trans f144 K152.1
  have f165 : Exa Z T152.heap b102 "com/example/tagform/tagform/schema/Tag" := f145.keep K152
  have f166 : Fld Z T152.heap b102 "com/example/tagform/tagform/schema/Tag" "tagClass" "Lcom/example/tagform/tagform/ber/TagClass;" (.ref (own_cls k1 a_UNIVERSAL a_APPLICATION a_CONTEXT_SPECIFIC a_PRIVATE)) := f146.keep K152 (ninS ne132_b102 nin0)
  have f167 : Fld Z T152.heap b102 "com/example/tagform/tagform/schema/Tag" "number" "I" (.int m1) := f147.keep K152 (ninS ne132_b102 nin0)
  refine EndsW.go (fun t k => st152.trans k) ?_
  show EndsW _ _ _ _ _ _ _ (T152.setTop (mkF m 64 #[.val (.int p1), .val (.int p2), .val (.int p3), .val (.int p4), .val (.int p5), .val (.int k1), .val (.int k2), .val (.int m1), .val (.int m2), .val (.ref b102), .unset, .unset, .unset] [(.ref b132)]))
  refine EndsW.go (b := T152.setTop (mkF m 74 #[.val (.int p1), .val (.int p2), .val (.int p3), .val (.int p4), .val (.int p5), .val (.int k1), .val (.int k2), .val (.int m1), .val (.int m2), .val (.ref b102), .val (.ref b132), .val (.int (((p5.toUInt32 >>> ((1 : Int32) &&& 31).toUInt32).toInt32) &&& (3 : Int32))), .unset] [])) (fun t k => ?_) ?_
  · show Steps p.tables e below (T152.setTop (mkF m 64 #[.val (.int p1), .val (.int p2), .val (.int p3), .val (.int p4), .val (.int p5), .val (.int k1), .val (.int k2), .val (.int m1), .val (.int m2), .val (.ref b102), .unset, .unset, .unset] [(.ref b132)])) _
    refine XS.astore X152.here hx rfl (hb hby at_64) rfl rfl (l' := #[.val (.int p1), .val (.int p2), .val (.int p3), .val (.int p4), .val (.int p5), .val (.int k1), .val (.int k2), .val (.int m1), .val (.int m2), .val (.ref b102), .val (.ref b132), .unset, .unset]) rfl ?_
    show Steps p.tables e below (T152.setTop (mkF m 66 #[.val (.int p1), .val (.int p2), .val (.int p3), .val (.int p4), .val (.int p5), .val (.int k1), .val (.int k2), .val (.int m1), .val (.int m2), .val (.ref b102), .val (.ref b132), .unset, .unset] [])) _
    refine XS.iload X152.here hx rfl (hb hby at_66) rfl ?_
    show Steps p.tables e below (T152.setTop (mkF m 68 #[.val (.int p1), .val (.int p2), .val (.int p3), .val (.int p4), .val (.int p5), .val (.int k1), .val (.int k2), .val (.int m1), .val (.int m2), .val (.ref b102), .val (.ref b132), .unset, .unset] [(.int p5)])) _
    refine XS.iconst X152.here hx rfl (hb hby at_68) ?_
    show Steps p.tables e below (T152.setTop (mkF m 69 #[.val (.int p1), .val (.int p2), .val (.int p3), .val (.int p4), .val (.int p5), .val (.int k1), .val (.int k2), .val (.int m1), .val (.int m2), .val (.ref b102), .val (.ref b132), .unset, .unset] [(.int (1 : Int32)), (.int p5)])) _
    refine XS.iushr X152.here hx rfl (hb hby at_69) rfl ?_
    show Steps p.tables e below (T152.setTop (mkF m 70 #[.val (.int p1), .val (.int p2), .val (.int p3), .val (.int p4), .val (.int p5), .val (.int k1), .val (.int k2), .val (.int m1), .val (.int m2), .val (.ref b102), .val (.ref b132), .unset, .unset] [(.int ((p5.toUInt32 >>> ((1 : Int32) &&& 31).toUInt32).toInt32))])) _
    refine XS.iconst X152.here hx rfl (hb hby at_70) ?_
    show Steps p.tables e below (T152.setTop (mkF m 71 #[.val (.int p1), .val (.int p2), .val (.int p3), .val (.int p4), .val (.int p5), .val (.int k1), .val (.int k2), .val (.int m1), .val (.int m2), .val (.ref b102), .val (.ref b132), .unset, .unset] [(.int (3 : Int32)), (.int ((p5.toUInt32 >>> ((1 : Int32) &&& 31).toUInt32).toInt32))])) _
    refine XS.iand X152.here hx rfl (hb hby at_71) rfl ?_
    show Steps p.tables e below (T152.setTop (mkF m 72 #[.val (.int p1), .val (.int p2), .val (.int p3), .val (.int p4), .val (.int p5), .val (.int k1), .val (.int k2), .val (.int m1), .val (.int m2), .val (.ref b102), .val (.ref b132), .unset, .unset] [(.int (((p5.toUInt32 >>> ((1 : Int32) &&& 31).toUInt32).toInt32) &&& (3 : Int32)))])) _
    refine XS.istore X152.here hx rfl (hb hby at_72) rfl (l' := #[.val (.int p1), .val (.int p2), .val (.int p3), .val (.int p4), .val (.int p5), .val (.int k1), .val (.int k2), .val (.int m1), .val (.int m2), .val (.ref b102), .val (.ref b132), .val (.int (((p5.toUInt32 >>> ((1 : Int32) &&& 31).toUInt32).toInt32) &&& (3 : Int32))), .unset]) rfl ?_
    show Steps p.tables e below (T152.setTop (mkF m 74 #[.val (.int p1), .val (.int p2), .val (.int p3), .val (.int p4), .val (.int p5), .val (.int k1), .val (.int k2), .val (.int m1), .val (.int m2), .val (.ref b102), .val (.ref b132), .val (.int (((p5.toUInt32 >>> ((1 : Int32) &&& 31).toUInt32).toInt32) &&& (3 : Int32))), .unset] [])) _
    exact k
  generalize hv_sel : (((p5.toUInt32 >>> ((1 : Int32) &&& 31).toUInt32).toInt32) &&& (3 : Int32)) = sel
  show EndsW _ _ _ _ _ _ _ (T152.setTop (mkF m 74 #[.val (.int p1), .val (.int p2), .val (.int p3), .val (.int p4), .val (.int p5), .val (.int k1), .val (.int k2), .val (.int m1), .val (.int m2), .val (.ref b102), .val (.ref b132), .val (.int sel), .unset] []))
  refine EndsW.go (b := T152.setTop (mkF m 77 #[.val (.int p1), .val (.int p2), .val (.int p3), .val (.int p4), .val (.int p5), .val (.int k1), .val (.int k2), .val (.int m1), .val (.int m2), .val (.ref b102), .val (.ref b132), .val (.int sel), .unset] [(.int (1 : Int32)), (.int sel)])) (fun t k => ?_) ?_
  · show Steps p.tables e below (T152.setTop (mkF m 74 #[.val (.int p1), .val (.int p2), .val (.int p3), .val (.int p4), .val (.int p5), .val (.int k1), .val (.int k2), .val (.int m1), .val (.int m2), .val (.ref b102), .val (.ref b132), .val (.int sel), .unset] [])) _
    refine XS.iload X152.here hx rfl (hb hby at_74) rfl ?_
    show Steps p.tables e below (T152.setTop (mkF m 76 #[.val (.int p1), .val (.int p2), .val (.int p3), .val (.int p4), .val (.int p5), .val (.int k1), .val (.int k2), .val (.int m1), .val (.int m2), .val (.ref b102), .val (.ref b132), .val (.int sel), .unset] [(.int sel)])) _
    refine XS.iconst X152.here hx rfl (hb hby at_76) ?_
    show Steps p.tables e below (T152.setTop (mkF m 77 #[.val (.int p1), .val (.int p2), .val (.int p3), .val (.int p4), .val (.int p5), .val (.int k1), .val (.int k2), .val (.int m1), .val (.int m2), .val (.ref b102), .val (.ref b132), .val (.int sel), .unset] [(.int (1 : Int32)), (.int sel)])) _
    exact k
  by_cases hc77_168 : sel = (1 : Int32)
  · refine EndsW.go (b := T152.setTop (mkF m 80 #[.val (.int p1), .val (.int p2), .val (.int p3), .val (.int p4), .val (.int p5), .val (.int k1), .val (.int k2), .val (.int m1), .val (.int m2), .val (.ref b102), .val (.ref b132), .val (.int sel), .unset] [])) (fun t k => ?_) ?_
    · show Steps p.tables e below (T152.setTop (mkF m 77 #[.val (.int p1), .val (.int p2), .val (.int p3), .val (.int p4), .val (.int p5), .val (.int k1), .val (.int k2), .val (.int m1), .val (.int m2), .val (.ref b102), .val (.ref b132), .val (.int sel), .unset] [(.int (1 : Int32)), (.int sel)])) _
      refine XS.icmpNo X152.here hx rfl (hb hby at_77) rfl (teq hc77_168).2 ?_
      show Steps p.tables e below (T152.setTop (mkF m 80 #[.val (.int p1), .val (.int p2), .val (.int p3), .val (.int p4), .val (.int p5), .val (.int k1), .val (.int k2), .val (.int m1), .val (.int m2), .val (.ref b102), .val (.ref b132), .val (.int sel), .unset] [])) _
      exact k
    refine EndsW.go (b := T152.setTop (mkF m 83 #[.val (.int p1), .val (.int p2), .val (.int p3), .val (.int p4), .val (.int p5), .val (.int k1), .val (.int k2), .val (.int m1), .val (.int m2), .val (.ref b102), .val (.ref b132), .val (.int sel), .unset] [.null, (.ref b102)])) (fun t k => ?_) ?_
    · show Steps p.tables e below (T152.setTop (mkF m 80 #[.val (.int p1), .val (.int p2), .val (.int p3), .val (.int p4), .val (.int p5), .val (.int k1), .val (.int k2), .val (.int m1), .val (.int m2), .val (.ref b102), .val (.ref b132), .val (.int sel), .unset] [])) _
      refine XS.aload X152.here hx rfl (hb hby at_80) rfl rfl ?_
      show Steps p.tables e below (T152.setTop (mkF m 82 #[.val (.int p1), .val (.int p2), .val (.int p3), .val (.int p4), .val (.int p5), .val (.int k1), .val (.int k2), .val (.int m1), .val (.int m2), .val (.ref b102), .val (.ref b132), .val (.int sel), .unset] [(.ref b102)])) _
      refine XS.aconstNull X152.here hx rfl (hb hby at_82) ?_
      show Steps p.tables e below (T152.setTop (mkF m 83 #[.val (.int p1), .val (.int p2), .val (.int p3), .val (.int p4), .val (.int p5), .val (.int k1), .val (.int k2), .val (.int m1), .val (.int m2), .val (.ref b102), .val (.ref b132), .val (.int sel), .unset] [.null, (.ref b102)])) _
      exact k
    obtain ⟨cq169, kq169, qa169, qb169, qc169⟩ := isOf hZ152 rfl f165
    obtain ⟨_, _, ⟨T169, L169, kk169, nn169⟩, -, X169, ⟨Lc169, hQ169, l169, y169, z169⟩, st169⟩ := X152.virtualBack hx (y := (⟨"com/example/tagform/tagform/schema/Tag", "equals", "(Ljava/lang/Object;)Z"⟩ : MethodName)) (z := (⟨"com/example/tagform/tagform/schema/Tag", "equals", "(Ljava/lang/Object;)Z"⟩ : MethodName)) hown152 (mvT hZ152 (hw _ (List.mem_of_getElem? (i := 37) rfl))) (mvT hZ152 (hw _ (List.mem_of_getElem? (i := 38) rfl))) (notFace_of_selects (args := #[]) (mvT hZ152 (hw _ (List.mem_of_getElem? (i := 40) rfl)))) (mvT hZ152 (hw _ (List.mem_of_getElem? (i := 40) rfl))) (mvT hZ152 (hw _ (List.mem_of_getElem? (i := 39) rfl))) (by decide) (backOf (W := 0) (rmE2 l Z a0 hw [] b102 T152.heap n0 f164 ) hZ152 (hw _ (List.mem_of_getElem? (i := 41) rfl)) (hw _ (List.mem_of_getElem? (i := 3) rfl)) (by decide) (by decide)) qa169 qc169 (g := (mkF m 83 #[.val (.int p1), .val (.int p2), .val (.int p3), .val (.int p4), .val (.int p5), .val (.int k1), .val (.int k2), .val (.int m1), .val (.int m2), .val (.ref b102), .val (.ref b132), .val (.int sel), .unset] [.null, (.ref b102)])) rfl (by rw [hml]; rfl) (Steps.refl _) (argsL := [.null]) (rest := []) (lenOf pd_5 rfl) rfl (by show 2 * 0 + _ ≤ _; exact Nat.le_of_eq rfl) (hb hby at_83) (fun _ _ => ⟨rfl, rfl, (by decide : 6 + 0 ≤ _), (by decide : 76 + 0 ≤ _)⟩)
    dsimp only [Pt.U, Pt.locs, Pt.cells, Pt.slots] at X169 l169 y169 z169 st169 hQ169
    subst l169 y169 z169
    obtain ⟨rfl, Nq169, eq169⟩ := hQ169
    have N169 := Fr.app N152 Nq169
    refine EndsW.go (fun t k => st169.trans k) ?_
    show EndsW _ _ _ _ _ _ _ (T169.setTop (mkF m 86 #[.val (.int p1), .val (.int p2), .val (.int p3), .val (.int p4), .val (.int p5), .val (.int k1), .val (.int k2), .val (.int m1), .val (.int m2), .val (.ref b102), .val (.ref b132), .val (.int sel), .unset] [(.int (0 : Int32))]))
    refine EndsW.go (b := T169.setTop (mkF m 94 #[.val (.int p1), .val (.int p2), .val (.int p3), .val (.int p4), .val (.int p5), .val (.int k1), .val (.int k2), .val (.int m1), .val (.int m2), .val (.ref b102), .val (.ref b132), .val (.int sel), .unset] [(.int (1 : Int32))])) (fun t k => ?_) ?_
    · show Steps p.tables e below (T169.setTop (mkF m 86 #[.val (.int p1), .val (.int p2), .val (.int p3), .val (.int p4), .val (.int p5), .val (.int k1), .val (.int k2), .val (.int m1), .val (.int m2), .val (.ref b102), .val (.ref b132), .val (.int sel), .unset] [(.int (0 : Int32))])) _
      refine XS.ifNo X169.here hx rfl (hb hby at_86) rfl ((if0 _ _).trans (teq (by decide)).2) ?_
      show Steps p.tables e below (T169.setTop (mkF m 89 #[.val (.int p1), .val (.int p2), .val (.int p3), .val (.int p4), .val (.int p5), .val (.int k1), .val (.int k2), .val (.int m1), .val (.int m2), .val (.ref b102), .val (.ref b132), .val (.int sel), .unset] [])) _
      refine XS.iconst X169.here hx rfl (hb hby at_89) ?_
      show Steps p.tables e below (T169.setTop (mkF m 90 #[.val (.int p1), .val (.int p2), .val (.int p3), .val (.int p4), .val (.int p5), .val (.int k1), .val (.int k2), .val (.int m1), .val (.int m2), .val (.ref b102), .val (.ref b132), .val (.int sel), .unset] [(.int (1 : Int32))])) _
      refine XS.goto X169.here hx rfl (pc0 := 90) (pc' := 94) rfl (hb hby at_90) (by decide) (by decide) ?_
      show Steps p.tables e below (T169.setTop (mkF m 94 #[.val (.int p1), .val (.int p2), .val (.int p3), .val (.int p4), .val (.int p5), .val (.int k1), .val (.int k2), .val (.int m1), .val (.int m2), .val (.ref b102), .val (.ref b132), .val (.int sel), .unset] [(.int (1 : Int32))])) _
      exact k
    refine EndsW.retN X169 hS152 (by rw [eq169]; exact (Nat.le_refl T152.heap.size)) hx Bd.notSynchronized (t := .boolean) Bd.returns (by simp) (hb hby at_94) (by decide) (by decide) ?_
    show Q0 Z p1 p2 p3 p4 p5 a_UNIVERSAL a_APPLICATION a_CONTEXT_SPECIFIC a_PRIVATE aC clC h0 n0 (some (.int (nar .boolean (1 : Int32)))) T169.heap _
    rw [eq169]
    exact ⟨rfl, N169⟩
  · refine EndsW.go (b := T152.setTop (mkF m 95 #[.val (.int p1), .val (.int p2), .val (.int p3), .val (.int p4), .val (.int p5), .val (.int k1), .val (.int k2), .val (.int m1), .val (.int m2), .val (.ref b102), .val (.ref b132), .val (.int sel), .unset] [])) (fun t k => ?_) ?_
    · show Steps p.tables e below (T152.setTop (mkF m 77 #[.val (.int p1), .val (.int p2), .val (.int p3), .val (.int p4), .val (.int p5), .val (.int k1), .val (.int k2), .val (.int m1), .val (.int m2), .val (.ref b102), .val (.ref b132), .val (.int sel), .unset] [(.int (1 : Int32)), (.int sel)])) _
      refine XS.icmpYes X152.here hx rfl (pc0 := 77) (pc' := 95) rfl (hb hby at_77) rfl (feq hc77_168).2 (by decide) (by decide) ?_
      show Steps p.tables e below (T152.setTop (mkF m 95 #[.val (.int p1), .val (.int p2), .val (.int p3), .val (.int p4), .val (.int p5), .val (.int k1), .val (.int k2), .val (.int m1), .val (.int m2), .val (.ref b102), .val (.ref b132), .val (.int sel), .unset] [])) _
      exact k
    refine EndsW.go (b := T152.setTop (mkF m 98 #[.val (.int p1), .val (.int p2), .val (.int p3), .val (.int p4), .val (.int p5), .val (.int k1), .val (.int k2), .val (.int m1), .val (.int m2), .val (.ref b102), .val (.ref b132), .val (.int sel), .unset] [(.int (2 : Int32)), (.int sel)])) (fun t k => ?_) ?_
    · show Steps p.tables e below (T152.setTop (mkF m 95 #[.val (.int p1), .val (.int p2), .val (.int p3), .val (.int p4), .val (.int p5), .val (.int k1), .val (.int k2), .val (.int m1), .val (.int m2), .val (.ref b102), .val (.ref b132), .val (.int sel), .unset] [])) _
      refine XS.iload X152.here hx rfl (hb hby at_95) rfl ?_
      show Steps p.tables e below (T152.setTop (mkF m 97 #[.val (.int p1), .val (.int p2), .val (.int p3), .val (.int p4), .val (.int p5), .val (.int k1), .val (.int k2), .val (.int m1), .val (.int m2), .val (.ref b102), .val (.ref b132), .val (.int sel), .unset] [(.int sel)])) _
      refine XS.iconst X152.here hx rfl (hb hby at_97) ?_
      show Steps p.tables e below (T152.setTop (mkF m 98 #[.val (.int p1), .val (.int p2), .val (.int p3), .val (.int p4), .val (.int p5), .val (.int k1), .val (.int k2), .val (.int m1), .val (.int m2), .val (.ref b102), .val (.ref b132), .val (.int sel), .unset] [(.int (2 : Int32)), (.int sel)])) _
      exact k
    by_cases hc98_170 : sel = (2 : Int32)
    · refine EndsW.go (b := T152.setTop (mkF m 101 #[.val (.int p1), .val (.int p2), .val (.int p3), .val (.int p4), .val (.int p5), .val (.int k1), .val (.int k2), .val (.int m1), .val (.int m2), .val (.ref b102), .val (.ref b132), .val (.int sel), .unset] [])) (fun t k => ?_) ?_
      · show Steps p.tables e below (T152.setTop (mkF m 98 #[.val (.int p1), .val (.int p2), .val (.int p3), .val (.int p4), .val (.int p5), .val (.int k1), .val (.int k2), .val (.int m1), .val (.int m2), .val (.ref b102), .val (.ref b132), .val (.int sel), .unset] [(.int (2 : Int32)), (.int sel)])) _
        refine XS.icmpNo X152.here hx rfl (hb hby at_98) rfl (teq hc98_170).2 ?_
        show Steps p.tables e below (T152.setTop (mkF m 101 #[.val (.int p1), .val (.int p2), .val (.int p3), .val (.int p4), .val (.int p5), .val (.int k1), .val (.int k2), .val (.int m1), .val (.int m2), .val (.ref b102), .val (.ref b132), .val (.int sel), .unset] [])) _
        exact k
      refine EndsW.go (b := T152.setTop (mkF m 105 #[.val (.int p1), .val (.int p2), .val (.int p3), .val (.int p4), .val (.int p5), .val (.int k1), .val (.int k2), .val (.int m1), .val (.int m2), .val (.ref b102), .val (.ref b132), .val (.int sel), .unset] [(.int m1), (.ref b102)])) (fun t k => ?_) ?_
      · show Steps p.tables e below (T152.setTop (mkF m 101 #[.val (.int p1), .val (.int p2), .val (.int p3), .val (.int p4), .val (.int p5), .val (.int k1), .val (.int k2), .val (.int m1), .val (.int m2), .val (.ref b102), .val (.ref b132), .val (.int sel), .unset] [])) _
        refine XS.aload X152.here hx rfl (hb hby at_101) rfl rfl ?_
        show Steps p.tables e below (T152.setTop (mkF m 103 #[.val (.int p1), .val (.int p2), .val (.int p3), .val (.int p4), .val (.int p5), .val (.int k1), .val (.int k2), .val (.int m1), .val (.int m2), .val (.ref b102), .val (.ref b132), .val (.int sel), .unset] [(.ref b102)])) _
        refine XS.iload X152.here hx rfl (hb hby at_103) rfl ?_
        show Steps p.tables e below (T152.setTop (mkF m 105 #[.val (.int p1), .val (.int p2), .val (.int p3), .val (.int p4), .val (.int p5), .val (.int k1), .val (.int k2), .val (.int m1), .val (.int m2), .val (.ref b102), .val (.ref b132), .val (.int sel), .unset] [(.int m1), (.ref b102)])) _
        exact k
      obtain ⟨_, _, ⟨T171, L171, kk171, nn171⟩, -, X171, ⟨Lc171, hQ171, l171, y171, z171⟩, st171⟩ := Jvm.LawKit.callS X152 hx (y := (⟨"java/lang/Integer", "valueOf", "(I)Ljava/lang/Integer;"⟩ : MethodName)) hown152 (mvT hZ152 (hw _ (List.mem_of_getElem? (i := 48) rfl))) (mvT hZ152 (hw _ (List.mem_of_getElem? (i := 49) rfl))) (mvT hZ152 (hw _ (List.mem_of_getElem? (i := 50) rfl))) (mvT hZ152 (hw _ (List.mem_of_getElem? (i := 51) rfl))) (by decide) (backOf (W := 1) (rm6 l Z a0 hw [] m1 aC clC T152.heap n0 f164 f157 f158 Bx f159 hm1) hZ152 (hw _ (List.mem_of_getElem? (i := 51) rfl)) (hw _ (List.mem_of_getElem? (i := 50) rfl)) (by decide) (by decide)) (g := (mkF m 105 #[.val (.int p1), .val (.int p2), .val (.int p3), .val (.int p4), .val (.int p5), .val (.int k1), .val (.int k2), .val (.int m1), .val (.int m2), .val (.ref b102), .val (.ref b132), .val (.int sel), .unset] [(.int m1), (.ref b102)])) rfl (by rw [hml]; rfl) (argsL := [(.int m1)]) (rest := [(.ref b102)]) (lenOf pd_6 rfl) rfl (by show 2 * 0 + _ ≤ _; exact Nat.le_of_eq rfl) (hb hby at_105) (fun _ _ => ⟨rfl, rfl, (by decide : 6 + 1 ≤ _), (by decide : 76 + 1 ≤ _)⟩)
      dsimp only [Pt.U, Pt.locs, Pt.cells, Pt.slots] at X171 l171 y171 z171 st171 hQ171
      subst l171 y171 z171
      obtain ⟨ib171, rfl, Nq171, K171, Ei171⟩ := hQ171
      have N171 := Fr.app N152 Nq171
      have f172 : Sta Z T171.heap "com/example/tagform/tagform/ber/TagClass" "UNIVERSAL" "Lcom/example/tagform/tagform/ber/TagClass;" (.ref a_UNIVERSAL) := own_sta_keep0 f153 K171
      have f173 : Sta Z T171.heap "com/example/tagform/tagform/ber/TagClass" "APPLICATION" "Lcom/example/tagform/tagform/ber/TagClass;" (.ref a_APPLICATION) := own_sta_keep0 f154 K171
      have f174 : Sta Z T171.heap "com/example/tagform/tagform/ber/TagClass" "CONTEXT_SPECIFIC" "Lcom/example/tagform/tagform/ber/TagClass;" (.ref a_CONTEXT_SPECIFIC) := own_sta_keep0 f155 K171
      have f175 : Sta Z T171.heap "com/example/tagform/tagform/ber/TagClass" "PRIVATE" "Lcom/example/tagform/tagform/ber/TagClass;" (.ref a_PRIVATE) := own_sta_keep0 f156 K171
      have f176 : Sta Z T171.heap "java/lang/Integer$IntegerCache" "high" "I" (.int (127 : Int32)) := own_sta_keep0 f157 K171
      have f177 : Sta Z T171.heap "java/lang/Integer$IntegerCache" "cache" "[Ljava/lang/Integer;" (.ref aC) := own_sta_keep0 f158 K171
      have f178 : Old Z n0 T171.heap := f159.keep K171 all0
      have f179 : Exa Z T171.heap a_UNIVERSAL "com/example/tagform/tagform/ber/TagClass" := f160.keep K171
      have f180 : Exa Z T171.heap a_APPLICATION "com/example/tagform/tagform/ber/TagClass" := f161.keep K171
      have f181 : Exa Z T171.heap a_CONTEXT_SPECIFIC "com/example/tagform/tagform/ber/TagClass" := f162.keep K171
      have f182 : Exa Z T171.heap a_PRIVATE "com/example/tagform/tagform/ber/TagClass" := f163.keep K171
      have f183 : n0 ≤ T171.heap.size := Nat.le_trans f164 K171.1
      have f184 : Exa Z T171.heap b102 "com/example/tagform/tagform/schema/Tag" := f165.keep K171
      have f185 : Fld Z T171.heap b102 "com/example/tagform/tagform/schema/Tag" "tagClass" "Lcom/example/tagform/tagform/ber/TagClass;" (.ref (own_cls k1 a_UNIVERSAL a_APPLICATION a_CONTEXT_SPECIFIC a_PRIVATE)) := f166.keep K171 nin0
      have f186 : Fld Z T171.heap b102 "com/example/tagform/tagform/schema/Tag" "number" "I" (.int m1) := f167.keep K171 nin0
      have f187 : Exa Z T171.heap b132 "com/example/tagform/tagform/schema/Tag" := Ex152.keep K171
      have f188 : Fld Z T171.heap b132 "com/example/tagform/tagform/schema/Tag" "tagClass" "Lcom/example/tagform/tagform/ber/TagClass;" (.ref (own_cls k2 a_UNIVERSAL a_APPLICATION a_CONTEXT_SPECIFIC a_PRIVATE)) := F152_tagClass.keep K171 nin0
      have f189 : Fld Z T171.heap b132 "com/example/tagform/tagform/schema/Tag" "number" "I" (.int m2) := F152_number.keep K171 nin0
      have f190 : T152.heap.size ≤ T171.heap.size := Nat.le_trans (Nat.le_refl T152.heap.size) K171.1
      refine EndsW.go st171 ?_
      show EndsW _ _ _ _ _ _ _ (T171.setTop (mkF m 108 #[.val (.int p1), .val (.int p2), .val (.int p3), .val (.int p4), .val (.int p5), .val (.int k1), .val (.int k2), .val (.int m1), .val (.int m2), .val (.ref b102), .val (.ref b132), .val (.int sel), .unset] [(.ref ib171), (.ref b102)]))
      obtain ⟨cq191, kq191, qa191, qb191, qc191⟩ := isOf hZ152 rfl f184
      obtain ⟨_, _, ⟨T191, L191, kk191, nn191⟩, -, X191, ⟨Lc191, hQ191, l191, y191, z191⟩, st191⟩ := X171.virtualBack hx (y := (⟨"com/example/tagform/tagform/schema/Tag", "equals", "(Ljava/lang/Object;)Z"⟩ : MethodName)) (z := (⟨"com/example/tagform/tagform/schema/Tag", "equals", "(Ljava/lang/Object;)Z"⟩ : MethodName)) hown152 (mvT hZ152 (hw _ (List.mem_of_getElem? (i := 37) rfl))) (mvT hZ152 (hw _ (List.mem_of_getElem? (i := 38) rfl))) (notFace_of_selects (args := #[]) (mvT hZ152 (hw _ (List.mem_of_getElem? (i := 40) rfl)))) (mvT hZ152 (hw _ (List.mem_of_getElem? (i := 40) rfl))) (mvT hZ152 (hw _ (List.mem_of_getElem? (i := 39) rfl))) (by decide) (backOf (W := 0) (rmE3 l Z a0 hw [] b102 ib171 T171.heap n0 f183 Ei171) hZ152 (hw _ (List.mem_of_getElem? (i := 41) rfl)) (hw _ (List.mem_of_getElem? (i := 3) rfl)) (by decide) (by decide)) qa191 qc191 (g := (mkF m 108 #[.val (.int p1), .val (.int p2), .val (.int p3), .val (.int p4), .val (.int p5), .val (.int k1), .val (.int k2), .val (.int m1), .val (.int m2), .val (.ref b102), .val (.ref b132), .val (.int sel), .unset] [(.ref ib171), (.ref b102)])) rfl (by rw [hml]; rfl) (Steps.refl _) (argsL := [(.ref ib171)]) (rest := []) (lenOf pd_5 rfl) rfl (by show 2 * 0 + _ ≤ _; exact Nat.le_of_eq rfl) (hb hby at_108) (fun _ _ => ⟨rfl, rfl, (by decide : 7 + 0 ≤ _), (by decide : 77 + 0 ≤ _)⟩)
      dsimp only [Pt.U, Pt.locs, Pt.cells, Pt.slots] at X191 l191 y191 z191 st191 hQ191
      subst l191 y191 z191
      obtain ⟨rfl, Nq191, eq191⟩ := hQ191
      have N191 := Fr.app N171 Nq191
      refine EndsW.go (fun t k => st191.trans k) ?_
      show EndsW _ _ _ _ _ _ _ (T191.setTop (mkF m 111 #[.val (.int p1), .val (.int p2), .val (.int p3), .val (.int p4), .val (.int p5), .val (.int k1), .val (.int k2), .val (.int m1), .val (.int m2), .val (.ref b102), .val (.ref b132), .val (.int sel), .unset] [(.int (0 : Int32))]))
      refine EndsW.go (b := T191.setTop (mkF m 119 #[.val (.int p1), .val (.int p2), .val (.int p3), .val (.int p4), .val (.int p5), .val (.int k1), .val (.int k2), .val (.int m1), .val (.int m2), .val (.ref b102), .val (.ref b132), .val (.int sel), .unset] [(.int (1 : Int32))])) (fun t k => ?_) ?_
      · show Steps p.tables e below (T191.setTop (mkF m 111 #[.val (.int p1), .val (.int p2), .val (.int p3), .val (.int p4), .val (.int p5), .val (.int k1), .val (.int k2), .val (.int m1), .val (.int m2), .val (.ref b102), .val (.ref b132), .val (.int sel), .unset] [(.int (0 : Int32))])) _
        refine XS.ifNo X191.here hx rfl (hb hby at_111) rfl ((if0 _ _).trans (teq (by decide)).2) ?_
        show Steps p.tables e below (T191.setTop (mkF m 114 #[.val (.int p1), .val (.int p2), .val (.int p3), .val (.int p4), .val (.int p5), .val (.int k1), .val (.int k2), .val (.int m1), .val (.int m2), .val (.ref b102), .val (.ref b132), .val (.int sel), .unset] [])) _
        refine XS.iconst X191.here hx rfl (hb hby at_114) ?_
        show Steps p.tables e below (T191.setTop (mkF m 115 #[.val (.int p1), .val (.int p2), .val (.int p3), .val (.int p4), .val (.int p5), .val (.int k1), .val (.int k2), .val (.int m1), .val (.int m2), .val (.ref b102), .val (.ref b132), .val (.int sel), .unset] [(.int (1 : Int32))])) _
        refine XS.goto X191.here hx rfl (pc0 := 115) (pc' := 119) rfl (hb hby at_115) (by decide) (by decide) ?_
        show Steps p.tables e below (T191.setTop (mkF m 119 #[.val (.int p1), .val (.int p2), .val (.int p3), .val (.int p4), .val (.int p5), .val (.int k1), .val (.int k2), .val (.int m1), .val (.int m2), .val (.ref b102), .val (.ref b132), .val (.int sel), .unset] [(.int (1 : Int32))])) _
        exact k
      refine EndsW.retN X191 hS152 (by rw [eq191]; exact f190) hx Bd.notSynchronized (t := .boolean) Bd.returns (by simp) (hb hby at_119) (by decide) (by decide) ?_
      show Q0 Z p1 p2 p3 p4 p5 a_UNIVERSAL a_APPLICATION a_CONTEXT_SPECIFIC a_PRIVATE aC clC h0 n0 (some (.int (nar .boolean (1 : Int32)))) T191.heap _
      rw [eq191]
      exact ⟨rfl, N191⟩
    · refine EndsW.go (b := T152.setTop (mkF m 120 #[.val (.int p1), .val (.int p2), .val (.int p3), .val (.int p4), .val (.int p5), .val (.int k1), .val (.int k2), .val (.int m1), .val (.int m2), .val (.ref b102), .val (.ref b132), .val (.int sel), .unset] [])) (fun t k => ?_) ?_
      · show Steps p.tables e below (T152.setTop (mkF m 98 #[.val (.int p1), .val (.int p2), .val (.int p3), .val (.int p4), .val (.int p5), .val (.int k1), .val (.int k2), .val (.int m1), .val (.int m2), .val (.ref b102), .val (.ref b132), .val (.int sel), .unset] [(.int (2 : Int32)), (.int sel)])) _
        refine XS.icmpYes X152.here hx rfl (pc0 := 98) (pc' := 120) rfl (hb hby at_98) rfl (feq hc98_170).2 (by decide) (by decide) ?_
        show Steps p.tables e below (T152.setTop (mkF m 120 #[.val (.int p1), .val (.int p2), .val (.int p3), .val (.int p4), .val (.int p5), .val (.int k1), .val (.int k2), .val (.int m1), .val (.int m2), .val (.ref b102), .val (.ref b132), .val (.int sel), .unset] [])) _
        exact k
      refine EndsW.go (b := T152.setTop (mkF m 123 #[.val (.int p1), .val (.int p2), .val (.int p3), .val (.int p4), .val (.int p5), .val (.int k1), .val (.int k2), .val (.int m1), .val (.int m2), .val (.ref b102), .val (.ref b132), .val (.int sel), .unset] [(.int (3 : Int32)), (.int sel)])) (fun t k => ?_) ?_
      · show Steps p.tables e below (T152.setTop (mkF m 120 #[.val (.int p1), .val (.int p2), .val (.int p3), .val (.int p4), .val (.int p5), .val (.int k1), .val (.int k2), .val (.int m1), .val (.int m2), .val (.ref b102), .val (.ref b132), .val (.int sel), .unset] [])) _
        refine XS.iload X152.here hx rfl (hb hby at_120) rfl ?_
        show Steps p.tables e below (T152.setTop (mkF m 122 #[.val (.int p1), .val (.int p2), .val (.int p3), .val (.int p4), .val (.int p5), .val (.int k1), .val (.int k2), .val (.int m1), .val (.int m2), .val (.ref b102), .val (.ref b132), .val (.int sel), .unset] [(.int sel)])) _
        refine XS.iconst X152.here hx rfl (hb hby at_122) ?_
        show Steps p.tables e below (T152.setTop (mkF m 123 #[.val (.int p1), .val (.int p2), .val (.int p3), .val (.int p4), .val (.int p5), .val (.int k1), .val (.int k2), .val (.int m1), .val (.int m2), .val (.ref b102), .val (.ref b132), .val (.int sel), .unset] [(.int (3 : Int32)), (.int sel)])) _
        exact k
      by_cases hc123_192 : sel = (3 : Int32)
      · refine EndsW.go (b := T152.setTop (mkF m 126 #[.val (.int p1), .val (.int p2), .val (.int p3), .val (.int p4), .val (.int p5), .val (.int k1), .val (.int k2), .val (.int m1), .val (.int m2), .val (.ref b102), .val (.ref b132), .val (.int sel), .unset] [])) (fun t k => ?_) ?_
        · show Steps p.tables e below (T152.setTop (mkF m 123 #[.val (.int p1), .val (.int p2), .val (.int p3), .val (.int p4), .val (.int p5), .val (.int k1), .val (.int k2), .val (.int m1), .val (.int m2), .val (.ref b102), .val (.ref b132), .val (.int sel), .unset] [(.int (3 : Int32)), (.int sel)])) _
          refine XS.icmpNo X152.here hx rfl (hb hby at_123) rfl (teq hc123_192).2 ?_
          show Steps p.tables e below (T152.setTop (mkF m 126 #[.val (.int p1), .val (.int p2), .val (.int p3), .val (.int p4), .val (.int p5), .val (.int k1), .val (.int k2), .val (.int m1), .val (.int m2), .val (.ref b102), .val (.ref b132), .val (.int sel), .unset] [])) _
          exact k
        refine EndsW.go (b := T152.setTop (mkF m 130 #[.val (.int p1), .val (.int p2), .val (.int p3), .val (.int p4), .val (.int p5), .val (.int k1), .val (.int k2), .val (.int m1), .val (.int m2), .val (.ref b102), .val (.ref b132), .val (.int sel), .unset] [(.ref b102), (.ref b102)])) (fun t k => ?_) ?_
        · show Steps p.tables e below (T152.setTop (mkF m 126 #[.val (.int p1), .val (.int p2), .val (.int p3), .val (.int p4), .val (.int p5), .val (.int k1), .val (.int k2), .val (.int m1), .val (.int m2), .val (.ref b102), .val (.ref b132), .val (.int sel), .unset] [])) _
          refine XS.aload X152.here hx rfl (hb hby at_126) rfl rfl ?_
          show Steps p.tables e below (T152.setTop (mkF m 128 #[.val (.int p1), .val (.int p2), .val (.int p3), .val (.int p4), .val (.int p5), .val (.int k1), .val (.int k2), .val (.int m1), .val (.int m2), .val (.ref b102), .val (.ref b132), .val (.int sel), .unset] [(.ref b102)])) _
          refine XS.aload X152.here hx rfl (hb hby at_128) rfl rfl ?_
          show Steps p.tables e below (T152.setTop (mkF m 130 #[.val (.int p1), .val (.int p2), .val (.int p3), .val (.int p4), .val (.int p5), .val (.int k1), .val (.int k2), .val (.int m1), .val (.int m2), .val (.ref b102), .val (.ref b132), .val (.int sel), .unset] [(.ref b102), (.ref b102)])) _
          exact k
        obtain ⟨cq193, kq193, qa193, qb193, qc193⟩ := isOf hZ152 rfl f165
        obtain ⟨_, _, ⟨T193, L193, kk193, nn193⟩, -, X193, ⟨Lc193, hQ193, l193, y193, z193⟩, st193⟩ := X152.virtualBack hx (y := (⟨"com/example/tagform/tagform/schema/Tag", "equals", "(Ljava/lang/Object;)Z"⟩ : MethodName)) (z := (⟨"com/example/tagform/tagform/schema/Tag", "equals", "(Ljava/lang/Object;)Z"⟩ : MethodName)) hown152 (mvT hZ152 (hw _ (List.mem_of_getElem? (i := 37) rfl))) (mvT hZ152 (hw _ (List.mem_of_getElem? (i := 38) rfl))) (notFace_of_selects (args := #[]) (mvT hZ152 (hw _ (List.mem_of_getElem? (i := 40) rfl)))) (mvT hZ152 (hw _ (List.mem_of_getElem? (i := 40) rfl))) (mvT hZ152 (hw _ (List.mem_of_getElem? (i := 39) rfl))) (by decide) (backOf (W := 0) (rmE1 l Z a0 hw [] b102 b102 (own_cls k1 a_UNIVERSAL a_APPLICATION a_CONTEXT_SPECIFIC a_PRIVATE) m1 (own_cls k1 a_UNIVERSAL a_APPLICATION a_CONTEXT_SPECIFIC a_PRIVATE) m1 T152.heap n0 f164 f166 f167 f166 f167 f165) hZ152 (hw _ (List.mem_of_getElem? (i := 41) rfl)) (hw _ (List.mem_of_getElem? (i := 3) rfl)) (by decide) (by decide)) qa193 qc193 (g := (mkF m 130 #[.val (.int p1), .val (.int p2), .val (.int p3), .val (.int p4), .val (.int p5), .val (.int k1), .val (.int k2), .val (.int m1), .val (.int m2), .val (.ref b102), .val (.ref b132), .val (.int sel), .unset] [(.ref b102), (.ref b102)])) rfl (by rw [hml]; rfl) (Steps.refl _) (argsL := [(.ref b102)]) (rest := []) (lenOf pd_5 rfl) rfl (by show 2 * 0 + _ ≤ _; exact Nat.le_of_eq rfl) (hb hby at_130) (fun _ _ => ⟨rfl, rfl, (by decide : 6 + 0 ≤ _), (by decide : 76 + 0 ≤ _)⟩)
        dsimp only [Pt.U, Pt.locs, Pt.cells, Pt.slots] at X193 l193 y193 z193 st193 hQ193
        subst l193 y193 z193
        obtain ⟨rfl, Nq193, eq193⟩ := hQ193
        have N193 := Fr.app N152 Nq193
        refine EndsW.go (fun t k => st193.trans k) ?_
        show EndsW _ _ _ _ _ _ _ (T193.setTop (mkF m 133 #[.val (.int p1), .val (.int p2), .val (.int p3), .val (.int p4), .val (.int p5), .val (.int k1), .val (.int k2), .val (.int m1), .val (.int m2), .val (.ref b102), .val (.ref b132), .val (.int sel), .unset] [(.int (own_eq (own_cls k1 a_UNIVERSAL a_APPLICATION a_CONTEXT_SPECIFIC a_PRIVATE) m1 (own_cls k1 a_UNIVERSAL a_APPLICATION a_CONTEXT_SPECIFIC a_PRIVATE) m1))]))
        refine EndsW.retN X193 hS152 (by rw [eq193]; exact (Nat.le_refl T152.heap.size)) hx Bd.notSynchronized (t := .boolean) Bd.returns (by simp) (hb hby at_133) (by decide) (by decide) ?_
        show Q0 Z p1 p2 p3 p4 p5 a_UNIVERSAL a_APPLICATION a_CONTEXT_SPECIFIC a_PRIVATE aC clC h0 n0 (some (.int (nar .boolean (own_eq (own_cls k1 a_UNIVERSAL a_APPLICATION a_CONTEXT_SPECIFIC a_PRIVATE) m1 (own_cls k1 a_UNIVERSAL a_APPLICATION a_CONTEXT_SPECIFIC a_PRIVATE) m1)))) T193.heap _
        rw [eq193]
        exact ⟨by rw [own_same]; rfl, N193⟩
      · refine EndsW.go (b := T152.setTop (mkF m 134 #[.val (.int p1), .val (.int p2), .val (.int p3), .val (.int p4), .val (.int p5), .val (.int k1), .val (.int k2), .val (.int m1), .val (.int m2), .val (.ref b102), .val (.ref b132), .val (.int sel), .unset] [])) (fun t k => ?_) ?_
        · show Steps p.tables e below (T152.setTop (mkF m 123 #[.val (.int p1), .val (.int p2), .val (.int p3), .val (.int p4), .val (.int p5), .val (.int k1), .val (.int k2), .val (.int m1), .val (.int m2), .val (.ref b102), .val (.ref b132), .val (.int sel), .unset] [(.int (3 : Int32)), (.int sel)])) _
          refine XS.icmpYes X152.here hx rfl (pc0 := 123) (pc' := 134) rfl (hb hby at_123) rfl (feq hc123_192).2 (by decide) (by decide) ?_
          show Steps p.tables e below (T152.setTop (mkF m 134 #[.val (.int p1), .val (.int p2), .val (.int p3), .val (.int p4), .val (.int p5), .val (.int k1), .val (.int k2), .val (.int m1), .val (.int m2), .val (.ref b102), .val (.ref b132), .val (.int sel), .unset] [])) _
          exact k
        refine EndsW.go (b := T152.setTop (mkF m 138 #[.val (.int p1), .val (.int p2), .val (.int p3), .val (.int p4), .val (.int p5), .val (.int k1), .val (.int k2), .val (.int m1), .val (.int m2), .val (.ref b102), .val (.ref b132), .val (.int sel), .unset] [(.int k2), (.int k1)])) (fun t k => ?_) ?_
        · show Steps p.tables e below (T152.setTop (mkF m 134 #[.val (.int p1), .val (.int p2), .val (.int p3), .val (.int p4), .val (.int p5), .val (.int k1), .val (.int k2), .val (.int m1), .val (.int m2), .val (.ref b102), .val (.ref b132), .val (.int sel), .unset] [])) _
          refine XS.iload X152.here hx rfl (hb hby at_134) rfl ?_
          show Steps p.tables e below (T152.setTop (mkF m 136 #[.val (.int p1), .val (.int p2), .val (.int p3), .val (.int p4), .val (.int p5), .val (.int k1), .val (.int k2), .val (.int m1), .val (.int m2), .val (.ref b102), .val (.ref b132), .val (.int sel), .unset] [(.int k1)])) _
          refine XS.iload X152.here hx rfl (hb hby at_136) rfl ?_
          show Steps p.tables e below (T152.setTop (mkF m 138 #[.val (.int p1), .val (.int p2), .val (.int p3), .val (.int p4), .val (.int p5), .val (.int k1), .val (.int k2), .val (.int m1), .val (.int m2), .val (.ref b102), .val (.ref b132), .val (.int sel), .unset] [(.int k2), (.int k1)])) _
          exact k
        refine EndsW.go (b := T152.setTop (mkF m 153 #[.val (.int p1), .val (.int p2), .val (.int p3), .val (.int p4), .val (.int p5), .val (.int k1), .val (.int k2), .val (.int m1), .val (.int m2), .val (.ref b102), .val (.ref b132), .val (.int sel), .unset] [(.int (if k1 = k2 then (if m1 = m2 then (1 : Int32) else (0 : Int32)) else (0 : Int32)))])) (fun t k => ?_) ?_
        · by_cases hc138_194 : k1 = k2
          · refine XS.icmpNo X152.here hx rfl (hb hby at_138) rfl (teq hc138_194).2 ?_
            show Steps p.tables e below (T152.setTop (mkF m 141 #[.val (.int p1), .val (.int p2), .val (.int p3), .val (.int p4), .val (.int p5), .val (.int k1), .val (.int k2), .val (.int m1), .val (.int m2), .val (.ref b102), .val (.ref b132), .val (.int sel), .unset] [])) _
            refine XS.iload X152.here hx rfl (hb hby at_141) rfl ?_
            show Steps p.tables e below (T152.setTop (mkF m 143 #[.val (.int p1), .val (.int p2), .val (.int p3), .val (.int p4), .val (.int p5), .val (.int k1), .val (.int k2), .val (.int m1), .val (.int m2), .val (.ref b102), .val (.ref b132), .val (.int sel), .unset] [(.int m1)])) _
            refine XS.iload X152.here hx rfl (hb hby at_143) rfl ?_
            show Steps p.tables e below (T152.setTop (mkF m 145 #[.val (.int p1), .val (.int p2), .val (.int p3), .val (.int p4), .val (.int p5), .val (.int k1), .val (.int k2), .val (.int m1), .val (.int m2), .val (.ref b102), .val (.ref b132), .val (.int sel), .unset] [(.int m2), (.int m1)])) _
            by_cases hc145_195 : m1 = m2
            · refine XS.icmpNo X152.here hx rfl (hb hby at_145) rfl (teq hc145_195).2 ?_
              show Steps p.tables e below (T152.setTop (mkF m 148 #[.val (.int p1), .val (.int p2), .val (.int p3), .val (.int p4), .val (.int p5), .val (.int k1), .val (.int k2), .val (.int m1), .val (.int m2), .val (.ref b102), .val (.ref b132), .val (.int sel), .unset] [])) _
              refine XS.iconst X152.here hx rfl (hb hby at_148) ?_
              show Steps p.tables e below (T152.setTop (mkF m 149 #[.val (.int p1), .val (.int p2), .val (.int p3), .val (.int p4), .val (.int p5), .val (.int k1), .val (.int k2), .val (.int m1), .val (.int m2), .val (.ref b102), .val (.ref b132), .val (.int sel), .unset] [(.int (1 : Int32))])) _
              refine XS.goto X152.here hx rfl (pc0 := 149) (pc' := 153) rfl (hb hby at_149) (by decide) (by decide) ?_
              show Steps p.tables e below (T152.setTop (mkF m 153 #[.val (.int p1), .val (.int p2), .val (.int p3), .val (.int p4), .val (.int p5), .val (.int k1), .val (.int k2), .val (.int m1), .val (.int m2), .val (.ref b102), .val (.ref b132), .val (.int sel), .unset] [(.int (1 : Int32))])) _
              have j0 : (if k1 = k2 then (if m1 = m2 then (1 : Int32) else (0 : Int32)) else (0 : Int32)) = (1 : Int32) := by rw [if_pos hc138_194, if_pos hc145_195]
              rw [j0] at k
              exact k
            · refine XS.icmpYes X152.here hx rfl (pc0 := 145) (pc' := 152) rfl (hb hby at_145) rfl (feq hc145_195).2 (by decide) (by decide) ?_
              show Steps p.tables e below (T152.setTop (mkF m 152 #[.val (.int p1), .val (.int p2), .val (.int p3), .val (.int p4), .val (.int p5), .val (.int k1), .val (.int k2), .val (.int m1), .val (.int m2), .val (.ref b102), .val (.ref b132), .val (.int sel), .unset] [])) _
              refine XS.iconst X152.here hx rfl (hb hby at_152) ?_
              show Steps p.tables e below (T152.setTop (mkF m 153 #[.val (.int p1), .val (.int p2), .val (.int p3), .val (.int p4), .val (.int p5), .val (.int k1), .val (.int k2), .val (.int m1), .val (.int m2), .val (.ref b102), .val (.ref b132), .val (.int sel), .unset] [(.int (0 : Int32))])) _
              have j0 : (if k1 = k2 then (if m1 = m2 then (1 : Int32) else (0 : Int32)) else (0 : Int32)) = (0 : Int32) := by rw [if_pos hc138_194, if_neg hc145_195]
              rw [j0] at k
              exact k
          · refine XS.icmpYes X152.here hx rfl (pc0 := 138) (pc' := 152) rfl (hb hby at_138) rfl (feq hc138_194).2 (by decide) (by decide) ?_
            show Steps p.tables e below (T152.setTop (mkF m 152 #[.val (.int p1), .val (.int p2), .val (.int p3), .val (.int p4), .val (.int p5), .val (.int k1), .val (.int k2), .val (.int m1), .val (.int m2), .val (.ref b102), .val (.ref b132), .val (.int sel), .unset] [])) _
            refine XS.iconst X152.here hx rfl (hb hby at_152) ?_
            show Steps p.tables e below (T152.setTop (mkF m 153 #[.val (.int p1), .val (.int p2), .val (.int p3), .val (.int p4), .val (.int p5), .val (.int k1), .val (.int k2), .val (.int m1), .val (.int m2), .val (.ref b102), .val (.ref b132), .val (.int sel), .unset] [(.int (0 : Int32))])) _
            have j0 : (if k1 = k2 then (if m1 = m2 then (1 : Int32) else (0 : Int32)) else (0 : Int32)) = (0 : Int32) := by rw [if_neg hc138_194]
            rw [j0] at k
            exact k
        generalize hv_ex : (if k1 = k2 then (if m1 = m2 then (1 : Int32) else (0 : Int32)) else (0 : Int32)) = ex
        show EndsW _ _ _ _ _ _ _ (T152.setTop (mkF m 153 #[.val (.int p1), .val (.int p2), .val (.int p3), .val (.int p4), .val (.int p5), .val (.int k1), .val (.int k2), .val (.int m1), .val (.int m2), .val (.ref b102), .val (.ref b132), .val (.int sel), .unset] [(.int ex)]))
        refine EndsW.go (b := T152.setTop (mkF m 159 #[.val (.int p1), .val (.int p2), .val (.int p3), .val (.int p4), .val (.int p5), .val (.int k1), .val (.int k2), .val (.int m1), .val (.int m2), .val (.ref b102), .val (.ref b132), .val (.int sel), .val (.int ex)] [(.ref b132), (.ref b102)])) (fun t k => ?_) ?_
        · show Steps p.tables e below (T152.setTop (mkF m 153 #[.val (.int p1), .val (.int p2), .val (.int p3), .val (.int p4), .val (.int p5), .val (.int k1), .val (.int k2), .val (.int m1), .val (.int m2), .val (.ref b102), .val (.ref b132), .val (.int sel), .unset] [(.int ex)])) _
          refine XS.istore X152.here hx rfl (hb hby at_153) rfl (l' := #[.val (.int p1), .val (.int p2), .val (.int p3), .val (.int p4), .val (.int p5), .val (.int k1), .val (.int k2), .val (.int m1), .val (.int m2), .val (.ref b102), .val (.ref b132), .val (.int sel), .val (.int ex)]) rfl ?_
          show Steps p.tables e below (T152.setTop (mkF m 155 #[.val (.int p1), .val (.int p2), .val (.int p3), .val (.int p4), .val (.int p5), .val (.int k1), .val (.int k2), .val (.int m1), .val (.int m2), .val (.ref b102), .val (.ref b132), .val (.int sel), .val (.int ex)] [])) _
          refine XS.aload X152.here hx rfl (hb hby at_155) rfl rfl ?_
          show Steps p.tables e below (T152.setTop (mkF m 157 #[.val (.int p1), .val (.int p2), .val (.int p3), .val (.int p4), .val (.int p5), .val (.int k1), .val (.int k2), .val (.int m1), .val (.int m2), .val (.ref b102), .val (.ref b132), .val (.int sel), .val (.int ex)] [(.ref b102)])) _
          refine XS.aload X152.here hx rfl (hb hby at_157) rfl rfl ?_
          show Steps p.tables e below (T152.setTop (mkF m 159 #[.val (.int p1), .val (.int p2), .val (.int p3), .val (.int p4), .val (.int p5), .val (.int k1), .val (.int k2), .val (.int m1), .val (.int m2), .val (.ref b102), .val (.ref b132), .val (.int sel), .val (.int ex)] [(.ref b132), (.ref b102)])) _
          exact k
        obtain ⟨cq196, kq196, qa196, qb196, qc196⟩ := isOf hZ152 rfl f165
        obtain ⟨_, _, ⟨T196, L196, kk196, nn196⟩, -, X196, ⟨Lc196, hQ196, l196, y196, z196⟩, st196⟩ := X152.virtualBack hx (y := (⟨"com/example/tagform/tagform/schema/Tag", "equals", "(Ljava/lang/Object;)Z"⟩ : MethodName)) (z := (⟨"com/example/tagform/tagform/schema/Tag", "equals", "(Ljava/lang/Object;)Z"⟩ : MethodName)) hown152 (mvT hZ152 (hw _ (List.mem_of_getElem? (i := 37) rfl))) (mvT hZ152 (hw _ (List.mem_of_getElem? (i := 38) rfl))) (notFace_of_selects (args := #[]) (mvT hZ152 (hw _ (List.mem_of_getElem? (i := 40) rfl)))) (mvT hZ152 (hw _ (List.mem_of_getElem? (i := 40) rfl))) (mvT hZ152 (hw _ (List.mem_of_getElem? (i := 39) rfl))) (by decide) (backOf (W := 0) (rmE1 l Z a0 hw [] b102 b132 (own_cls k1 a_UNIVERSAL a_APPLICATION a_CONTEXT_SPECIFIC a_PRIVATE) m1 (own_cls k2 a_UNIVERSAL a_APPLICATION a_CONTEXT_SPECIFIC a_PRIVATE) m2 T152.heap n0 f164 f166 f167 F152_tagClass F152_number Ex152) hZ152 (hw _ (List.mem_of_getElem? (i := 41) rfl)) (hw _ (List.mem_of_getElem? (i := 3) rfl)) (by decide) (by decide)) qa196 qc196 (g := (mkF m 159 #[.val (.int p1), .val (.int p2), .val (.int p3), .val (.int p4), .val (.int p5), .val (.int k1), .val (.int k2), .val (.int m1), .val (.int m2), .val (.ref b102), .val (.ref b132), .val (.int sel), .val (.int ex)] [(.ref b132), (.ref b102)])) rfl (by rw [hml]; rfl) (Steps.refl _) (argsL := [(.ref b132)]) (rest := []) (lenOf pd_5 rfl) rfl (by show 2 * 0 + _ ≤ _; exact Nat.le_of_eq rfl) (hb hby at_159) (fun _ _ => ⟨rfl, rfl, (by decide : 6 + 0 ≤ _), (by decide : 76 + 0 ≤ _)⟩)
        dsimp only [Pt.U, Pt.locs, Pt.cells, Pt.slots] at X196 l196 y196 z196 st196 hQ196
        subst l196 y196 z196
        obtain ⟨rfl, Nq196, eq196⟩ := hQ196
        have N196 := Fr.app N152 Nq196
        refine EndsW.go (fun t k => st196.trans k) ?_
        show EndsW _ _ _ _ _ _ _ (T196.setTop (mkF m 162 #[.val (.int p1), .val (.int p2), .val (.int p3), .val (.int p4), .val (.int p5), .val (.int k1), .val (.int k2), .val (.int m1), .val (.int m2), .val (.ref b102), .val (.ref b132), .val (.int sel), .val (.int ex)] [(.int (own_eq (own_cls k1 a_UNIVERSAL a_APPLICATION a_CONTEXT_SPECIFIC a_PRIVATE) m1 (own_cls k2 a_UNIVERSAL a_APPLICATION a_CONTEXT_SPECIFIC a_PRIVATE) m2))]))
        refine EndsW.go (b := T196.setTop (mkF m 171 #[.val (.int p1), .val (.int p2), .val (.int p3), .val (.int p4), .val (.int p5), .val (.int k1), .val (.int k2), .val (.int m1), .val (.int m2), .val (.ref b102), .val (.ref b132), .val (.int sel), .val (.int ex)] [(.ref b102), (.ref b132)])) (fun t k => ?_) ?_
        · show Steps p.tables e below (T196.setTop (mkF m 162 #[.val (.int p1), .val (.int p2), .val (.int p3), .val (.int p4), .val (.int p5), .val (.int k1), .val (.int k2), .val (.int m1), .val (.int m2), .val (.ref b102), .val (.ref b132), .val (.int sel), .val (.int ex)] [(.int (own_eq (own_cls k1 a_UNIVERSAL a_APPLICATION a_CONTEXT_SPECIFIC a_PRIVATE) m1 (own_cls k2 a_UNIVERSAL a_APPLICATION a_CONTEXT_SPECIFIC a_PRIVATE) m2))])) _
          refine XS.iload X196.here hx rfl (hb hby at_162) rfl ?_
          show Steps p.tables e below (T196.setTop (mkF m 164 #[.val (.int p1), .val (.int p2), .val (.int p3), .val (.int p4), .val (.int p5), .val (.int k1), .val (.int k2), .val (.int m1), .val (.int m2), .val (.ref b102), .val (.ref b132), .val (.int sel), .val (.int ex)] [(.int ex), (.int (own_eq (own_cls k1 a_UNIVERSAL a_APPLICATION a_CONTEXT_SPECIFIC a_PRIVATE) m1 (own_cls k2 a_UNIVERSAL a_APPLICATION a_CONTEXT_SPECIFIC a_PRIVATE) m2))])) _
          refine XS.icmpNo X196.here hx rfl (hb hby at_164) rfl (teq ((own_fin (own_cls k1 a_UNIVERSAL a_APPLICATION a_CONTEXT_SPECIFIC a_PRIVATE) (own_cls k2 a_UNIVERSAL a_APPLICATION a_CONTEXT_SPECIFIC a_PRIVATE) m1 m2 k1 k2 (own_inj k1 k2 n01 n02 n03 n12 n13 n23 hk1 hk2)).trans hv_ex)).2 ?_
          show Steps p.tables e below (T196.setTop (mkF m 167 #[.val (.int p1), .val (.int p2), .val (.int p3), .val (.int p4), .val (.int p5), .val (.int k1), .val (.int k2), .val (.int m1), .val (.int m2), .val (.ref b102), .val (.ref b132), .val (.int sel), .val (.int ex)] [])) _
          refine XS.aload X196.here hx rfl (hb hby at_167) rfl rfl ?_
          show Steps p.tables e below (T196.setTop (mkF m 169 #[.val (.int p1), .val (.int p2), .val (.int p3), .val (.int p4), .val (.int p5), .val (.int k1), .val (.int k2), .val (.int m1), .val (.int m2), .val (.ref b102), .val (.ref b132), .val (.int sel), .val (.int ex)] [(.ref b132)])) _
          refine XS.aload X196.here hx rfl (hb hby at_169) rfl rfl ?_
          show Steps p.tables e below (T196.setTop (mkF m 171 #[.val (.int p1), .val (.int p2), .val (.int p3), .val (.int p4), .val (.int p5), .val (.int k1), .val (.int k2), .val (.int m1), .val (.int m2), .val (.ref b102), .val (.ref b132), .val (.int sel), .val (.int ex)] [(.ref b102), (.ref b132)])) _
          exact k
        obtain ⟨cq197, kq197, qa197, qb197, qc197⟩ := isOf hZ152 eq196 Ex152
        obtain ⟨_, _, ⟨T197, L197, kk197, nn197⟩, -, X197, ⟨Lc197, hQ197, l197, y197, z197⟩, st197⟩ := X196.virtualBack hx (y := (⟨"com/example/tagform/tagform/schema/Tag", "equals", "(Ljava/lang/Object;)Z"⟩ : MethodName)) (z := (⟨"com/example/tagform/tagform/schema/Tag", "equals", "(Ljava/lang/Object;)Z"⟩ : MethodName)) hown152 (mvT hZ152 (hw _ (List.mem_of_getElem? (i := 37) rfl))) (mvT hZ152 (hw _ (List.mem_of_getElem? (i := 38) rfl))) (notFace_of_selects (args := #[]) (mvT hZ152 (hw _ (List.mem_of_getElem? (i := 40) rfl)))) (mvT hZ152 (hw _ (List.mem_of_getElem? (i := 40) rfl))) (mvT hZ152 (hw _ (List.mem_of_getElem? (i := 39) rfl))) (by decide) (backOf (W := 0) (rmE1 l Z a0 hw [] b132 b102 (own_cls k2 a_UNIVERSAL a_APPLICATION a_CONTEXT_SPECIFIC a_PRIVATE) m2 (own_cls k1 a_UNIVERSAL a_APPLICATION a_CONTEXT_SPECIFIC a_PRIVATE) m1 T152.heap n0 f164 F152_tagClass F152_number f166 f167 f165) hZ152 (hw _ (List.mem_of_getElem? (i := 41) rfl)) (hw _ (List.mem_of_getElem? (i := 3) rfl)) (by decide) (by decide)) qa197 qc197 (g := (mkF m 171 #[.val (.int p1), .val (.int p2), .val (.int p3), .val (.int p4), .val (.int p5), .val (.int k1), .val (.int k2), .val (.int m1), .val (.int m2), .val (.ref b102), .val (.ref b132), .val (.int sel), .val (.int ex)] [(.ref b102), (.ref b132)])) rfl (by rw [hml]; rfl) (Steps.refl _) (argsL := [(.ref b102)]) (rest := []) (lenOf pd_5 rfl) rfl (by show 2 * 0 + _ ≤ _; exact Nat.le_of_eq rfl) (hb hby at_171) (fun _ _ => ⟨rfl, eq196, (by decide : 6 + 0 ≤ _), (by decide : 76 + 0 ≤ _)⟩)
        dsimp only [Pt.U, Pt.locs, Pt.cells, Pt.slots] at X197 l197 y197 z197 st197 hQ197
        subst l197 y197 z197
        obtain ⟨rfl, Nq197, eq197⟩ := hQ197
        have N197 := Fr.app N196 Nq197
        refine EndsW.go (fun t k => st197.trans k) ?_
        show EndsW _ _ _ _ _ _ _ (T197.setTop (mkF m 174 #[.val (.int p1), .val (.int p2), .val (.int p3), .val (.int p4), .val (.int p5), .val (.int k1), .val (.int k2), .val (.int m1), .val (.int m2), .val (.ref b102), .val (.ref b132), .val (.int sel), .val (.int ex)] [(.int (own_eq (own_cls k2 a_UNIVERSAL a_APPLICATION a_CONTEXT_SPECIFIC a_PRIVATE) m2 (own_cls k1 a_UNIVERSAL a_APPLICATION a_CONTEXT_SPECIFIC a_PRIVATE) m1))]))
        refine EndsW.go (b := T197.setTop (mkF m 184 #[.val (.int p1), .val (.int p2), .val (.int p3), .val (.int p4), .val (.int p5), .val (.int k1), .val (.int k2), .val (.int m1), .val (.int m2), .val (.ref b102), .val (.ref b132), .val (.int sel), .val (.int ex)] [(.int (1 : Int32))])) (fun t k => ?_) ?_
        · show Steps p.tables e below (T197.setTop (mkF m 174 #[.val (.int p1), .val (.int p2), .val (.int p3), .val (.int p4), .val (.int p5), .val (.int k1), .val (.int k2), .val (.int m1), .val (.int m2), .val (.ref b102), .val (.ref b132), .val (.int sel), .val (.int ex)] [(.int (own_eq (own_cls k2 a_UNIVERSAL a_APPLICATION a_CONTEXT_SPECIFIC a_PRIVATE) m2 (own_cls k1 a_UNIVERSAL a_APPLICATION a_CONTEXT_SPECIFIC a_PRIVATE) m1))])) _
          refine XS.iload X197.here hx rfl (hb hby at_174) rfl ?_
          show Steps p.tables e below (T197.setTop (mkF m 176 #[.val (.int p1), .val (.int p2), .val (.int p3), .val (.int p4), .val (.int p5), .val (.int k1), .val (.int k2), .val (.int m1), .val (.int m2), .val (.ref b102), .val (.ref b132), .val (.int sel), .val (.int ex)] [(.int ex), (.int (own_eq (own_cls k2 a_UNIVERSAL a_APPLICATION a_CONTEXT_SPECIFIC a_PRIVATE) m2 (own_cls k1 a_UNIVERSAL a_APPLICATION a_CONTEXT_SPECIFIC a_PRIVATE) m1))])) _
          refine XS.icmpNo X197.here hx rfl (hb hby at_176) rfl (teq ((own_fin' (own_cls k1 a_UNIVERSAL a_APPLICATION a_CONTEXT_SPECIFIC a_PRIVATE) (own_cls k2 a_UNIVERSAL a_APPLICATION a_CONTEXT_SPECIFIC a_PRIVATE) m1 m2 k1 k2 (own_inj k1 k2 n01 n02 n03 n12 n13 n23 hk1 hk2)).trans hv_ex)).2 ?_
          show Steps p.tables e below (T197.setTop (mkF m 179 #[.val (.int p1), .val (.int p2), .val (.int p3), .val (.int p4), .val (.int p5), .val (.int k1), .val (.int k2), .val (.int m1), .val (.int m2), .val (.ref b102), .val (.ref b132), .val (.int sel), .val (.int ex)] [])) _
          refine XS.iconst X197.here hx rfl (hb hby at_179) ?_
          show Steps p.tables e below (T197.setTop (mkF m 180 #[.val (.int p1), .val (.int p2), .val (.int p3), .val (.int p4), .val (.int p5), .val (.int k1), .val (.int k2), .val (.int m1), .val (.int m2), .val (.ref b102), .val (.ref b132), .val (.int sel), .val (.int ex)] [(.int (1 : Int32))])) _
          refine XS.goto X197.here hx rfl (pc0 := 180) (pc' := 184) rfl (hb hby at_180) (by decide) (by decide) ?_
          show Steps p.tables e below (T197.setTop (mkF m 184 #[.val (.int p1), .val (.int p2), .val (.int p3), .val (.int p4), .val (.int p5), .val (.int k1), .val (.int k2), .val (.int m1), .val (.int m2), .val (.ref b102), .val (.ref b132), .val (.int sel), .val (.int ex)] [(.int (1 : Int32))])) _
          exact k
        refine EndsW.retN X197 hS152 (by rw [eq197]; exact (Nat.le_refl T152.heap.size)) hx Bd.notSynchronized (t := .boolean) Bd.returns (by simp) (hb hby at_184) (by decide) (by decide) ?_
        show Q0 Z p1 p2 p3 p4 p5 a_UNIVERSAL a_APPLICATION a_CONTEXT_SPECIFIC a_PRIVATE aC clC h0 n0 (some (.int (nar .boolean (1 : Int32)))) T197.heap _
        rw [eq197]
        exact ⟨rfl, N197⟩
set_option maxRecDepth 65536 in
set_option maxHeartbeats 40000000 in
theorem comes_1 {Post : Tables → Env → Array Value → State → Outcome → State → Prop} (hpost : ∀ tb e args s v u, (limb_1_1.after args s (.returned v) u = true ∧ limb_1_2.after args s (.returned v) u = true ∧ True) → ReturnedEndW s (.returned v) u (Jvm.fieldLocs frame_1_writes args s ++ Jvm.arrayLocs frame_1_arrays args s ++ Jvm.staticLocs frame_1_statics s) 16 1152 → Post tb e args s (.returned v) u) :
    ArmFor flags0 classFile x code maxLocals ret World_1 tables_1 room_1 Calls_1 rest_1 Pre_1 Post := by
  intro l hfl _ _ p e ha hc hk s m args below hf hA hF happ hP
  obtain ⟨hcalls, hrest, hpre⟩ := hP
  obtain ⟨-, -, -, hnamed, -, -, -, hat⟩ := (Spec.applies_iff hf).mp happ
  obtain ⟨hg, hn⟩ := and_e (Cond.before_iff.mp (show (Jvm.Cond.and given_1 narrow_1).before args s = true from hpre))
  obtain ⟨g1a, g1b⟩ := and_e hg
  obtain ⟨g2a, g2b⟩ := and_e g1b
  obtain ⟨g3a, g3b⟩ := and_e g2b
  obtain ⟨g4a, g4b⟩ := and_e g3b
  obtain ⟨g5a, g5b⟩ := and_e g4b
  obtain ⟨w0, w1, w2, w3, w4, rfl⟩ : ∃ w0 w1 w2 w3 w4 : Value, args = #[w0, w1, w2, w3, w4] := by
    have hs : args.size = 5 := by simpa [Cond.value, given_1] using g1a
    obtain ⟨L⟩ := args
    match L, hs with
    | [w0, w1, w2, w3, w4], _ => exact ⟨w0, w1, w2, w3, w4, rfl⟩
  have hw := fun d (hd : d ∈ tables_1) => atoms_spec (ws := Jvm.Cond.code x code maxLocals ret :: tables_1) hat d (List.mem_cons_of_mem _ hd)
  have hfit : Fit s := fun {y c} hc i hi => by
    obtain ⟨ha, rfl⟩ := Array.getElem?_eq_some_iff.mp hc
    have q := List.all_eq_true.mp ((Array.all_eq_true_iff_forall_mem.mp hF) _ (Array.getElem_mem ha)) i (List.mem_range.mpr hi)
    simpa [Array.getElem?_eq_getElem hi] using q
  obtain ⟨i0, ei0⟩ := is_v g2a
  obtain rfl : w0 = (.int i0) := Option.some.inj ei0
  obtain ⟨i1, ei1⟩ := is_v g3a
  obtain rfl : w1 = (.int i1) := Option.some.inj ei1
  obtain ⟨i2, ei2⟩ := is_v g4a
  obtain rfl : w2 = (.int i2) := Option.some.inj ei2
  obtain ⟨i3, ei3⟩ := is_v g5a
  obtain rfl : w3 = (.int i3) := Option.some.inj ei3
  obtain ⟨i4, ei4⟩ := is_v g5b
  obtain rfl : w4 = (.int i4) := Option.some.inj ei4
  obtain ⟨n0, hn0⟩ := and_e hn
  obtain ⟨n1, hn1⟩ := and_e hn0
  obtain ⟨n2, hn2⟩ := and_e hn1
  obtain ⟨n3, hn3⟩ := and_e hn2
  obtain ⟨n4, hn4⟩ := and_e hn3
  obtain ⟨n5, hn5⟩ := and_e hn4
  obtain ⟨n6, hn6⟩ := and_e hn5
  obtain ⟨a_UNIVERSAL, ev_UNIVERSAL⟩ := exa_v n0
  have X_UNIVERSAL := Exa.start ev_UNIVERSAL n0
  have S_UNIVERSAL := Sta.start ev_UNIVERSAL (Or.inr ⟨(hw _ (List.mem_of_getElem? (i := 9) rfl)), (hw _ (List.mem_of_getElem? (i := 10) rfl))⟩)
  obtain ⟨a_CONTEXT_SPECIFIC, ev_CONTEXT_SPECIFIC⟩ := exa_v n1
  have X_CONTEXT_SPECIFIC := Exa.start ev_CONTEXT_SPECIFIC n1
  have S_CONTEXT_SPECIFIC := Sta.start ev_CONTEXT_SPECIFIC (Or.inr ⟨(hw _ (List.mem_of_getElem? (i := 9) rfl)), (hw _ (List.mem_of_getElem? (i := 36) rfl))⟩)
  obtain ⟨a_PRIVATE, ev_PRIVATE⟩ := exa_v n4
  have X_PRIVATE := Exa.start ev_PRIVATE n4
  have S_PRIVATE := Sta.start ev_PRIVATE (Or.inr ⟨(hw _ (List.mem_of_getElem? (i := 9) rfl)), (hw _ (List.mem_of_getElem? (i := 45) rfl))⟩)
  obtain ⟨a_APPLICATION, ev_APPLICATION⟩ := exa_v n5
  have X_APPLICATION := Exa.start ev_APPLICATION n5
  have S_APPLICATION := Sta.start ev_APPLICATION (Or.inr ⟨(hw _ (List.mem_of_getElem? (i := 9) rfl)), (hw _ (List.mem_of_getElem? (i := 47) rfl))⟩)
  have F_CONTEXT_SPECIFIC_ordinal := Fld.start ((fld_at ev_CONTEXT_SPECIFIC).symm.trans (own_eqI n2))
  have F_UNIVERSAL_ordinal := Fld.start ((fld_at ev_UNIVERSAL).symm.trans (own_eqI n3))
  have F_APPLICATION_ordinal := Fld.start ((fld_at ev_APPLICATION).symm.trans (own_eqI n6))
  have F_PRIVATE_ordinal := Fld.start ((fld_at ev_PRIVATE).symm.trans (own_eqI hn6))
  obtain ⟨hsets, hown0⟩ := atoms_of _ (rest_1_c_eq ▸ (show rest_1_c.before _ s = true from hrest))
  have ev_high := own_eqI (Cond.before_iff.mp (hsets _ (List.mem_of_getElem? (i := 3) rfl)))
  have S_high := Sta.start ev_high (Or.inl (hsets _ (List.mem_of_getElem? (i := 1) rfl)))
  have hAr := Cond.before_iff.mp (hsets _ (List.mem_of_getElem? (i := 4) rfl))
  obtain ⟨aC, ev_c⟩ := arr_v hAr
  have S_cache := Sta.start ev_c (Or.inr ⟨(hw _ (List.mem_of_getElem? (i := 53) rfl)), (hsets _ (List.mem_of_getElem? (i := 2) rfl))⟩)
  obtain ⟨clC, ArC, szC, lnC⟩ := own_arr hAr ev_c (Cond.before_iff.mp (hsets _ (List.mem_of_getElem? (i := 6) rfl)))
  have Bx : Bxs s aC clC "java/lang/Integer" "I" (256 : Int32) (fun j => .int (j - (128 : Int32))) := Bxs.start (fun _ => ev_c) ArC szC lnC (by decide) (Cond.before_iff.mp (hsets _ (List.mem_of_getElem? (i := 7) rfl))) (fun X j hj h => eqv_i (Term.sub_int (idx_at hj) (Term.int_eval _)) h)
  have O1 := Old.start s
  have n01 : a_UNIVERSAL ≠ a_APPLICATION := Fld.ne F_UNIVERSAL_ordinal F_APPLICATION_ordinal (by decide)
  have n02 : a_UNIVERSAL ≠ a_CONTEXT_SPECIFIC := Fld.ne F_UNIVERSAL_ordinal F_CONTEXT_SPECIFIC_ordinal (by decide)
  have n03 : a_UNIVERSAL ≠ a_PRIVATE := Fld.ne F_UNIVERSAL_ordinal F_PRIVATE_ordinal (by decide)
  have n12 : a_APPLICATION ≠ a_CONTEXT_SPECIFIC := Fld.ne F_APPLICATION_ordinal F_CONTEXT_SPECIFIC_ordinal (by decide)
  have n13 : a_APPLICATION ≠ a_PRIVATE := Fld.ne F_APPLICATION_ordinal F_PRIVATE_ordinal (by decide)
  have n23 : a_CONTEXT_SPECIFIC ≠ a_PRIVATE := Fld.ne F_CONTEXT_SPECIFIC_ordinal F_PRIVATE_ordinal (by decide)
  obtain ⟨n, o, h1, h2, h3, _, L, rfl, ⟨rfl, N⟩, hq⟩ := rm0 l s _ hw tables_1 i0 i1 i2 i3 i4 a_UNIVERSAL a_APPLICATION a_CONTEXT_SPECIFIC a_PRIVATE aC clC s.heap s.heap.size (Nat.le_refl _) S_UNIVERSAL S_APPLICATION S_CONTEXT_SPECIFIC S_PRIVATE S_high S_cache Bx O1 X_UNIVERSAL X_APPLICATION X_CONTEXT_SPECIFIC X_PRIVATE n01 n02 n03 n12 n13 n23 p e ha hc hk s m _ below hf ((Spec.applies_iff_loose hf).mp happ).1 ⟨rfl, State.Warmed39.refl s, rfl⟩ trivial
  refine ⟨n, _, h1, h2, h3, hpost _ _ _ _ _ _ ⟨Cond.after_iff.mpr rfl, Cond.after_iff.mpr (eq_i res_at (Term.int_eval (1)) rfl), trivial⟩ ⟨hq.1, hq.2.1, hq.2.2.1, (hq.2.2.2.sift fun y hy => Or.inr (N y hy)).mono (by decide) (by decide)⟩⟩
theorem main_1_1 : Claimed_1_1 := comes_1 fun _ _ _ _ _ _ h hF => ⟨h.1, hF⟩
theorem main_1_2 : Claimed_1_2 := comes_1 fun _ _ _ _ _ _ h hF => ⟨h.2.1, hF⟩
end Jvm.Pilot.@@N@@
namespace Jvm.Pilot.@@N@@
open Jvm Jvm.ClassFile Sem Op Lib Jvm.Free Jvm.Stand Jvm.Pilot.@@N@@.Jvm.D
/-! MADE BY PROGRAM (witnessworld.py) out of the Statement's table words and the real class files: 21 classes; the members and pool entries that the words name. The judged class is class 1, her method 2. -/
namespace start1
open Jvm.ClassFile
def u (s : String) : CpInfo := .utf8 (stringToUtf16 s)
/-- a pool by its gaps: so many unusable entries, then the entry; so many at the end -/
def gap : Nat → List CpInfo → List CpInfo
  | 0, r => r
  | n + 1, r => .unusable :: gap n r
def poolList (es : List (Nat × CpInfo)) (last : Nat) : List CpInfo := es.foldr (fun e r => gap e.1 (e.2 :: r)) (gap last [])
def pool (es : List (Nat × CpInfo)) (last : Nat) : Array CpInfo := ⟨poolList es last⟩
def fileOf (pool : Array CpInfo) (this : Nat) (attrs : Array Attribute := #[]) (ms : Array MethodInfo := #[]) (fl : Nat := 33) (sup : Nat := 0) (ifs : Array Nat := #[]) (fds : Array FieldInfo := #[]) : ClassFile where
  minorVersion := 0
  majorVersion := 65
  constantPool := pool
  accessFlags := fl
  thisClass := this
  superClass := sup
  interfaces := ifs
  fields := fds
  methods := ms
  attributes := attrs
def plain (name : String) (sup : Option ClassId) : Class where
  name := name
  kind := .ordinary
  loader := none
  accessFlags := 33
  super := sup
  interfaces := #[]
  cf := none
  fields := #[]
  methods := #[]
  instanceTypes := #[]
  staticTypes := #[]
  resolved := #[]
  callSites := []
  init := .initialized
  statics := none
  mirror := none

def pool0 : Array CpInfo := pool [(5, u "<init>"), (0, u "()V"), (1, .class_ 10), (1, u "java/lang/Object")] 113

def k0c0 : Code := { maxStack := 0, maxLocals := 1, code := object_method_1_code, exceptionTable := #[], attributes := #[] }
def k0m0 : Method := { name := "<init>", desc := "()V", sig := { parameters := [], returnType := none }, accessFlags := 1, code := some k0c0 }
/-- java/lang/Object -/
def k0 : Class := { plain "java/lang/Object" none with
  accessFlags := 33
  interfaces := #[]
  cf := some (fileOf pool0 8 #[] #[{ accessFlags := 1, nameIndex := 5, descriptorIndex := 6, attributes := #[] }] 33 0 #[] #[])
  fields := #[]
  methods := #[k0m0]
  instanceTypes := #[]
  staticTypes := #[]
  resolved := Array.replicate 124 none
  statics := none }

def pool1 : Array CpInfo := pool [(2, .class_ 4), (1, u "java/lang/Object"), (0, u "<init>"), (0, u "()V"), (0, .fieldref 8 9), (0, .class_ 10), (0, .nameAndType 11 12), (0, u "com/example/tagform/tagform/ber/TagClass"), (0, u "UNIVERSAL"), (0, u "Lcom/example/tagform/tagform/ber/TagClass;"), (0, .fieldref 8 14), (0, .nameAndType 15 12), (0, u "APPLICATION"), (0, .fieldref 8 17), (0, .nameAndType 18 12), (0, u "CONTEXT_SPECIFIC"), (0, .fieldref 8 20), (0, .nameAndType 21 12), (0, u "PRIVATE"), (0, .integer 2147483647), (0, .class_ 24), (0, u "com/example/tagform/tagform/schema/Tag"), (0, .methodref 26 27), (0, .class_ 28), (0, .nameAndType 29 30), (0, u "com/example/tagform/tagform/schema/TagEqualsPinLaw"), (0, u "cls"), (0, u "(I)Lcom/example/tagform/tagform/ber/TagClass;"), (0, .methodref 23 32), (0, .nameAndType 5 33), (0, u "(Lcom/example/tagform/tagform/ber/TagClass;I)V"), (0, .methodref 23 35), (0, .nameAndType 36 37), (0, u "equals"), (0, u "(Ljava/lang/Object;)Z"), (0, .methodref 39 40), (0, .class_ 41), (0, .nameAndType 42 43), (0, u "java/lang/Integer"), (0, u "valueOf"), (0, u "(I)Ljava/lang/Integer;"), (3, u "law"), (0, u "(IIIII)Z")] 2

def k1m0 : Method := { name := "<init>", desc := "()V", sig := { parameters := [], returnType := none }, accessFlags := 1, code := none }
def k1c1 : Code := { maxStack := 2, maxLocals := 1, code := method_2_code, exceptionTable := #[], attributes := #[] }
def k1m1 : Method := { name := "cls", desc := "(I)Lcom/example/tagform/tagform/ber/TagClass;", sig := { parameters := [.int], returnType := some (.object "com/example/tagform/tagform/ber/TagClass") }, accessFlags := 10, code := some k1c1 }
def k1c2 : Code := { maxStack := 4, maxLocals := 13, code := code, exceptionTable := #[], attributes := #[] }
def k1m2 : Method := { name := "law", desc := "(IIIII)Z", sig := { parameters := [.int, .int, .int, .int, .int], returnType := some .boolean }, accessFlags := 9, code := some k1c2 }
/-- com/example/tagform/tagform/schema/TagEqualsPinLaw -/
def k1 : Class := { plain "com/example/tagform/tagform/schema/TagEqualsPinLaw" (some 0) with
  accessFlags := 49
  interfaces := #[]
  cf := some (fileOf pool1 26 #[] #[{ accessFlags := 1, nameIndex := 5, descriptorIndex := 6, attributes := #[] }, { accessFlags := 10, nameIndex := 29, descriptorIndex := 30, attributes := #[] }, { accessFlags := 9, nameIndex := 47, descriptorIndex := 48, attributes := #[] }] 49 2 #[] #[])
  fields := #[]
  methods := #[k1m0, k1m1, k1m2]
  instanceTypes := #[]
  staticTypes := #[]
  resolved := Array.replicate 51 none
  statics := none }

def pool2 : Array CpInfo := pool [(1, .methodref 2 3), (0, .class_ 4), (0, .nameAndType 5 6), (0, u "java/lang/Object"), (0, u "<init>"), (0, u "()V"), (9, .string 17), (0, u "tagClass"), (0, .methodref 19 20), (0, .class_ 21), (0, .nameAndType 22 23), (0, u "java/util/Objects"), (0, u "requireNonNull"), (0, u "(Ljava/lang/Object;Ljava/lang/String;)Ljava/lang/Object;"), (0, .class_ 25), (0, u "com/example/tagform/tagform/ber/TagClass"), (0, .fieldref 27 28), (0, .class_ 29), (0, .nameAndType 17 30), (0, u "com/example/tagform/tagform/schema/Tag"), (0, u "Lcom/example/tagform/tagform/ber/TagClass;"), (0, .fieldref 27 32), (0, .nameAndType 33 34), (0, u "number"), (0, u "I"), (7, u "(Lcom/example/tagform/tagform/ber/TagClass;I)V"), (6, u "equals"), (0, u "(Ljava/lang/Object;)Z")] 19

def k2c0 : Code := { maxStack := 3, maxLocals := 3, code := prog_149_method_1_code, exceptionTable := #[], attributes := #[] }
def k2m0 : Method := { name := "<init>", desc := "(Lcom/example/tagform/tagform/ber/TagClass;I)V", sig := { parameters := [(.object "com/example/tagform/tagform/ber/TagClass"), .int], returnType := none }, accessFlags := 1, code := some k2c0 }
def k2c1 : Code := { maxStack := 2, maxLocals := 3, code := prog_149_method_4_code, exceptionTable := #[], attributes := #[] }
def k2m1 : Method := { name := "equals", desc := "(Ljava/lang/Object;)Z", sig := { parameters := [(.object "java/lang/Object")], returnType := some .boolean }, accessFlags := 1, code := some k2c1 }
/-- com/example/tagform/tagform/schema/Tag -/
def k2 : Class := { plain "com/example/tagform/tagform/schema/Tag" (some 0) with
  accessFlags := 33
  interfaces := #[]
  cf := some (fileOf pool2 27 #[] #[{ accessFlags := 1, nameIndex := 5, descriptorIndex := 42, attributes := #[] }, { accessFlags := 1, nameIndex := 49, descriptorIndex := 50, attributes := #[] }] 33 2 #[] #[{ accessFlags := 18, nameIndex := 17, descriptorIndex := 30, attributes := #[] }, { accessFlags := 18, nameIndex := 33, descriptorIndex := 34, attributes := #[] }])
  fields := #[{ name := "tagClass", type := (.object "com/example/tagform/tagform/ber/TagClass"), accessFlags := 18, slot := 0, constantValue := 0 }, { name := "number", type := .int, accessFlags := 18, slot := 1, constantValue := 0 }]
  methods := #[k2m0, k2m1]
  instanceTypes := #[(.object "com/example/tagform/tagform/ber/TagClass"), .int]
  staticTypes := #[]
  resolved := Array.replicate 70 none
  statics := none }

def pool3 : Array CpInfo := pool [(1, .class_ 2), (0, u "java/lang/constant/Constable"), (0, .class_ 4), (0, u "java/lang/Object")] 6

/-- java/lang/constant/Constable -/
def k3 : Class := { plain "java/lang/constant/Constable" (some 0) with
  accessFlags := 1537
  interfaces := #[]
  cf := some (fileOf pool3 1 #[] #[] 1537 3 #[] #[])
  fields := #[]
  methods := #[]
  instanceTypes := #[]
  staticTypes := #[]
  resolved := Array.replicate 11 none
  statics := none }

def pool4 : Array CpInfo := pool [(1, .class_ 2), (0, u "java/lang/Comparable"), (0, .class_ 4), (0, u "java/lang/Object")] 7

/-- java/lang/Comparable -/
def k4 : Class := { plain "java/lang/Comparable" (some 0) with
  accessFlags := 1537
  interfaces := #[]
  cf := some (fileOf pool4 1 #[] #[] 1537 3 #[] #[])
  fields := #[]
  methods := #[]
  instanceTypes := #[]
  staticTypes := #[]
  resolved := Array.replicate 12 none
  statics := none }

def pool5 : Array CpInfo := pool [(1, .class_ 2), (0, u "java/io/Serializable"), (0, .class_ 4), (0, u "java/lang/Object")] 2

/-- java/io/Serializable -/
def k5 : Class := { plain "java/io/Serializable" (some 0) with
  accessFlags := 1537
  interfaces := #[]
  cf := some (fileOf pool5 1 #[] #[] 1537 3 #[] #[])
  fields := #[]
  methods := #[]
  instanceTypes := #[]
  staticTypes := #[]
  resolved := Array.replicate 7 none
  statics := none }

def pool6 : Array CpInfo := pool [(2, .class_ 4), (1, u "java/lang/Enum"), (0, u "name"), (0, u "Ljava/lang/String;"), (2, u "ordinal"), (0, u "I"), (1, .class_ 14), (1, u "java/lang/Object"), (4, u "hash"), (86, .class_ 108), (1, u "java/lang/Enum$EnumDesc"), (2, .class_ 112), (0, u "java/lang/constant/Constable"), (0, .class_ 114), (0, u "java/lang/Comparable"), (0, .class_ 116), (0, u "java/io/Serializable")] 87

/-- java/lang/Enum -/
def k6 : Class := { plain "java/lang/Enum" (some 0) with
  accessFlags := 1057
  interfaces := #[3, 4, 5]
  cf := some (fileOf pool6 2 #[.nestMembers #[106]] #[] 1057 12 #[111, 113, 115] #[{ accessFlags := 18, nameIndex := 5, descriptorIndex := 6, attributes := #[] }, { accessFlags := 18, nameIndex := 9, descriptorIndex := 10, attributes := #[] }, { accessFlags := 2, nameIndex := 19, descriptorIndex := 10, attributes := #[] }])
  fields := #[{ name := "name", type := (.object "java/lang/String"), accessFlags := 18, slot := 0, constantValue := 0 }, { name := "ordinal", type := .int, accessFlags := 18, slot := 1, constantValue := 0 }, { name := "hash", type := .int, accessFlags := 2, slot := 2, constantValue := 0 }]
  methods := #[]
  instanceTypes := #[(.object "java/lang/String"), .int, .int]
  staticTypes := #[]
  resolved := Array.replicate 204 none
  statics := none }

def pool7 : Array CpInfo := pool [(1, .class_ 2), (0, u "com/example/tagform/tagform/ber/TagClass"), (2, u "UNIVERSAL"), (0, u "Lcom/example/tagform/tagform/ber/TagClass;"), (2, u "APPLICATION"), (2, u "CONTEXT_SPECIFIC"), (2, u "PRIVATE"), (2, u "$VALUES"), (0, u "[Lcom/example/tagform/tagform/ber/TagClass;"), (6, .class_ 28), (1, u "java/lang/Enum"), (37, u "BY_BITS")] 49

/-- com/example/tagform/tagform/ber/TagClass -/
def k7 : Class := { plain "com/example/tagform/tagform/ber/TagClass" (some 6) with
  accessFlags := 16433
  interfaces := #[]
  cf := some (fileOf pool7 1 #[] #[] 16433 26 #[] #[{ accessFlags := 16409, nameIndex := 5, descriptorIndex := 6, attributes := #[] }, { accessFlags := 16409, nameIndex := 9, descriptorIndex := 6, attributes := #[] }, { accessFlags := 16409, nameIndex := 12, descriptorIndex := 6, attributes := #[] }, { accessFlags := 16409, nameIndex := 15, descriptorIndex := 6, attributes := #[] }, { accessFlags := 26, nameIndex := 66, descriptorIndex := 19, attributes := #[] }, { accessFlags := 4122, nameIndex := 18, descriptorIndex := 19, attributes := #[] }])
  fields := #[{ name := "UNIVERSAL", type := (.object "com/example/tagform/tagform/ber/TagClass"), accessFlags := 16409, slot := 0, constantValue := 0 }, { name := "APPLICATION", type := (.object "com/example/tagform/tagform/ber/TagClass"), accessFlags := 16409, slot := 1, constantValue := 0 }, { name := "CONTEXT_SPECIFIC", type := (.object "com/example/tagform/tagform/ber/TagClass"), accessFlags := 16409, slot := 2, constantValue := 0 }, { name := "PRIVATE", type := (.object "com/example/tagform/tagform/ber/TagClass"), accessFlags := 16409, slot := 3, constantValue := 0 }, { name := "BY_BITS", type := (.array (.object "com/example/tagform/tagform/ber/TagClass")), accessFlags := 26, slot := 4, constantValue := 0 }, { name := "$VALUES", type := (.array (.object "com/example/tagform/tagform/ber/TagClass")), accessFlags := 4122, slot := 5, constantValue := 0 }]
  methods := #[]
  instanceTypes := #[(.object "java/lang/String"), .int, .int]
  staticTypes := #[(.object "com/example/tagform/tagform/ber/TagClass"), (.object "com/example/tagform/tagform/ber/TagClass"), (.object "com/example/tagform/tagform/ber/TagClass"), (.object "com/example/tagform/tagform/ber/TagClass"), (.array (.object "com/example/tagform/tagform/ber/TagClass")), (.array (.object "com/example/tagform/tagform/ber/TagClass"))]
  resolved := Array.replicate 116 none
  statics := some 0 }

def pool8 : Array CpInfo := pool [(2, .class_ 4), (1, u "java/lang/CharSequence"), (42, .class_ 48), (0, u "java/lang/CharSequence$1CodePointIterator"), (10, .class_ 60), (0, u "java/lang/CharSequence$1CharIterator"), (5, .class_ 67), (0, u "java/lang/Object")] 63

/-- java/lang/CharSequence -/
def k8 : Class := { plain "java/lang/CharSequence" (some 0) with
  accessFlags := 1537
  interfaces := #[]
  cf := some (fileOf pool8 2 #[.nestMembers #[47, 59]] #[] 1537 66 #[] #[])
  fields := #[]
  methods := #[]
  instanceTypes := #[]
  staticTypes := #[]
  resolved := Array.replicate 131 none
  statics := none }

def pool9 : Array CpInfo := pool [(1, .class_ 2), (0, u "java/lang/constant/ConstantDesc"), (0, .class_ 4), (0, u "java/lang/Object")] 32

/-- java/lang/constant/ConstantDesc -/
def k9 : Class := { plain "java/lang/constant/ConstantDesc" (some 0) with
  accessFlags := 1537
  interfaces := #[]
  cf := some (fileOf pool9 1 #[] #[] 1537 3 #[] #[])
  fields := #[]
  methods := #[]
  instanceTypes := #[]
  staticTypes := #[]
  resolved := Array.replicate 37 none
  statics := none }

def pool10 : Array CpInfo := pool [(2, .class_ 4), (1, u "java/lang/Object"), (0, u "<init>"), (0, u "()V"), (3, .class_ 12), (1, u "java/lang/String"), (0, u "value"), (0, u "[B"), (2, u "coder"), (0, u "B"), (2, u "hash"), (0, u "I"), (2, u "hashIsZero"), (0, u "Z"), (13, u "COMPACT_STRINGS"), (534, .class_ 576), (0, u "java/lang/CharSequence"), (22, u "CASE_INSENSITIVE_ORDER"), (0, u "Ljava/util/Comparator;"), (500, u "serialPersistentFields"), (0, u "[Ljava/io/ObjectStreamField;"), (0, .class_ 1104), (0, u "java/lang/String$CaseInsensitiveComparator"), (1, .class_ 1107), (0, u "java/io/Serializable"), (0, .class_ 1109), (0, u "java/lang/Comparable"), (0, .class_ 1111), (0, u "java/lang/constant/Constable"), (0, .class_ 1113), (0, u "java/lang/constant/ConstantDesc"), (2, u "serialVersionUID"), (0, u "J"), (3, u "REPL"), (0, u "C"), (2, u "LATIN1"), (1, u "UTF16")] 323

def k10m0 : Method := { name := "<init>", desc := "()V", sig := { parameters := [], returnType := none }, accessFlags := 1, code := none }
/-- java/lang/String -/
def k10 : Class := { plain "java/lang/String" (some 0) with
  accessFlags := 49
  interfaces := #[5, 4, 8, 3, 9]
  cf := some (fileOf pool10 10 #[.nestMembers #[1103]] #[{ accessFlags := 1, nameIndex := 5, descriptorIndex := 6, attributes := #[] }] 49 2 #[1106, 1108, 575, 1110, 1112] #[{ accessFlags := 18, nameIndex := 13, descriptorIndex := 14, attributes := #[] }, { accessFlags := 18, nameIndex := 17, descriptorIndex := 18, attributes := #[] }, { accessFlags := 2, nameIndex := 21, descriptorIndex := 22, attributes := #[] }, { accessFlags := 2, nameIndex := 25, descriptorIndex := 26, attributes := #[] }, { accessFlags := 26, nameIndex := 1116, descriptorIndex := 1117, attributes := #[] }, { accessFlags := 24, nameIndex := 40, descriptorIndex := 26, attributes := #[] }, { accessFlags := 26, nameIndex := 1101, descriptorIndex := 1102, attributes := #[] }, { accessFlags := 26, nameIndex := 1121, descriptorIndex := 1122, attributes := #[] }, { accessFlags := 25, nameIndex := 599, descriptorIndex := 600, attributes := #[] }, { accessFlags := 24, nameIndex := 1125, descriptorIndex := 18, attributes := #[] }, { accessFlags := 24, nameIndex := 1127, descriptorIndex := 18, attributes := #[] }])
  fields := #[{ name := "value", type := (.array .byte), accessFlags := 18, slot := 0, constantValue := 0 }, { name := "coder", type := .byte, accessFlags := 18, slot := 1, constantValue := 0 }, { name := "hash", type := .int, accessFlags := 2, slot := 2, constantValue := 0 }, { name := "hashIsZero", type := .boolean, accessFlags := 2, slot := 3, constantValue := 0 }, { name := "serialVersionUID", type := .long, accessFlags := 26, slot := 0, constantValue := 0 }, { name := "COMPACT_STRINGS", type := .boolean, accessFlags := 24, slot := 1, constantValue := 0 }, { name := "serialPersistentFields", type := (.array (.object "java/io/ObjectStreamField")), accessFlags := 26, slot := 2, constantValue := 0 }, { name := "REPL", type := .char, accessFlags := 26, slot := 3, constantValue := 0 }, { name := "CASE_INSENSITIVE_ORDER", type := (.object "java/util/Comparator"), accessFlags := 25, slot := 4, constantValue := 0 }, { name := "LATIN1", type := .byte, accessFlags := 24, slot := 5, constantValue := 0 }, { name := "UTF16", type := .byte, accessFlags := 24, slot := 6, constantValue := 0 }]
  methods := #[k10m0]
  instanceTypes := #[(.array .byte), .byte, .int, .boolean]
  staticTypes := #[.long, .boolean, (.array (.object "java/io/ObjectStreamField")), .char, (.object "java/util/Comparator"), .byte, .byte]
  resolved := Array.replicate 1451 none
  statics := none }

def pool11 : Array CpInfo := pool [(2, .class_ 4), (1, u "java/lang/Object"), (0, u "<init>"), (0, u "()V"), (35, .class_ 44), (1, u "java/util/Objects"), (0, u "requireNonNull"), (48, u "(Ljava/lang/Object;Ljava/lang/String;)Ljava/lang/Object;")] 89

def k11m0 : Method := { name := "<init>", desc := "()V", sig := { parameters := [], returnType := none }, accessFlags := 2, code := none }
def k11c1 : Code := { maxStack := 3, maxLocals := 2, code := jdk_31_method_11_code, exceptionTable := #[], attributes := #[] }
def k11m1 : Method := { name := "requireNonNull", desc := "(Ljava/lang/Object;Ljava/lang/String;)Ljava/lang/Object;", sig := { parameters := [(.object "java/lang/Object"), (.object "java/lang/String")], returnType := some (.object "java/lang/Object") }, accessFlags := 9, code := some k11c1 }
/-- java/util/Objects -/
def k11 : Class := { plain "java/util/Objects" (some 0) with
  accessFlags := 49
  interfaces := #[]
  cf := some (fileOf pool11 42 #[] #[{ accessFlags := 2, nameIndex := 5, descriptorIndex := 6, attributes := #[] }, { accessFlags := 9, nameIndex := 45, descriptorIndex := 94, attributes := #[] }] 49 2 #[] #[])
  fields := #[]
  methods := #[k11m0, k11m1]
  instanceTypes := #[]
  staticTypes := #[]
  resolved := Array.replicate 184 none
  statics := none }

def pool12 : Array CpInfo := pool [(1, .methodref 2 3), (0, .class_ 4), (0, .nameAndType 5 6), (0, u "java/lang/Object"), (0, u "<init>"), (0, u "()V"), (1, .class_ 10), (1, u "java/lang/Number"), (2, .class_ 14), (0, u "java/io/Serializable"), (0, u "serialVersionUID"), (0, u "J")] 20

def k12c0 : Code := { maxStack := 1, maxLocals := 1, code := jdk_18_method_1_code, exceptionTable := #[], attributes := #[] }
def k12m0 : Method := { name := "<init>", desc := "()V", sig := { parameters := [], returnType := none }, accessFlags := 1, code := some k12c0 }
/-- java/lang/Number -/
def k12 : Class := { plain "java/lang/Number" (some 0) with
  accessFlags := 1057
  interfaces := #[5]
  cf := some (fileOf pool12 8 #[] #[{ accessFlags := 1, nameIndex := 5, descriptorIndex := 6, attributes := #[] }] 1057 2 #[13] #[{ accessFlags := 26, nameIndex := 15, descriptorIndex := 16, attributes := #[] }])
  fields := #[{ name := "serialVersionUID", type := .long, accessFlags := 26, slot := 0, constantValue := 0 }]
  methods := #[k12m0]
  instanceTypes := #[]
  staticTypes := #[.long]
  resolved := Array.replicate 37 none
  statics := none }

def pool13 : Array CpInfo := pool [(1, .class_ 2), (0, u "java/lang/Integer"), (16, u "digits"), (0, u "[C"), (46, u "<init>"), (17, u "DigitOnes"), (0, u "[B"), (2, u "DigitTens"), (10, .nameAndType 67 101), (0, u "()V"), (85, u "valueOf"), (0, u "(I)Ljava/lang/Integer;"), (0, .class_ 190), (0, u "java/lang/Integer$IntegerCache"), (0, .fieldref 189 192), (0, .nameAndType 193 194), (0, u "high"), (0, u "I"), (0, .fieldref 189 196), (0, .nameAndType 197 198), (0, u "cache"), (0, u "[Ljava/lang/Integer;"), (0, .methodref 1 200), (0, .nameAndType 67 201), (0, u "(I)V"), (0, .methodref 203 100), (0, .class_ 204), (0, u "java/lang/Number"), (0, .fieldref 1 206), (0, .nameAndType 207 194), (0, u "value"), (94, u "TYPE"), (0, u "Ljava/lang/Class;"), (0, .class_ 305), (0, u "java/lang/Comparable"), (0, .class_ 307), (0, u "java/lang/constant/Constable"), (0, .class_ 309), (0, u "java/lang/constant/ConstantDesc"), (0, u "MIN_VALUE"), (1, u "MAX_VALUE"), (3, u "SIZE"), (1, u "BYTES"), (1, u "serialVersionUID"), (0, u "J")] 131

def k13c0 : Code := { maxStack := 3, maxLocals := 1, code := jdk_33_method_22_code, exceptionTable := #[], attributes := #[] }
def k13m0 : Method := { name := "valueOf", desc := "(I)Ljava/lang/Integer;", sig := { parameters := [.int], returnType := some (.object "java/lang/Integer") }, accessFlags := 9, code := some k13c0 }
def k13c1 : Code := { maxStack := 2, maxLocals := 2, code := jdk_33_method_23_code, exceptionTable := #[], attributes := #[] }
def k13m1 : Method := { name := "<init>", desc := "(I)V", sig := { parameters := [.int], returnType := none }, accessFlags := 1, code := some k13c1 }
/-- java/lang/Integer -/
def k13 : Class := { plain "java/lang/Integer" (some 12) with
  accessFlags := 49
  interfaces := #[4, 3, 9]
  cf := some (fileOf pool13 1 #[.nestMembers #[189]] #[{ accessFlags := 9, nameIndex := 187, descriptorIndex := 188, attributes := #[] }, { accessFlags := 1, nameIndex := 67, descriptorIndex := 201, attributes := #[] }] 49 203 #[304, 306, 308] #[{ accessFlags := 25, nameIndex := 310, descriptorIndex := 194, attributes := #[] }, { accessFlags := 25, nameIndex := 312, descriptorIndex := 194, attributes := #[] }, { accessFlags := 25, nameIndex := 302, descriptorIndex := 303, attributes := #[] }, { accessFlags := 24, nameIndex := 19, descriptorIndex := 20, attributes := #[] }, { accessFlags := 24, nameIndex := 89, descriptorIndex := 86, attributes := #[] }, { accessFlags := 24, nameIndex := 85, descriptorIndex := 86, attributes := #[] }, { accessFlags := 18, nameIndex := 207, descriptorIndex := 194, attributes := #[] }, { accessFlags := 25, nameIndex := 316, descriptorIndex := 194, attributes := #[] }, { accessFlags := 25, nameIndex := 318, descriptorIndex := 194, attributes := #[] }, { accessFlags := 26, nameIndex := 320, descriptorIndex := 321, attributes := #[] }])
  fields := #[{ name := "MIN_VALUE", type := .int, accessFlags := 25, slot := 0, constantValue := 0 }, { name := "MAX_VALUE", type := .int, accessFlags := 25, slot := 1, constantValue := 0 }, { name := "TYPE", type := (.object "java/lang/Class"), accessFlags := 25, slot := 2, constantValue := 0 }, { name := "digits", type := (.array .char), accessFlags := 24, slot := 3, constantValue := 0 }, { name := "DigitTens", type := (.array .byte), accessFlags := 24, slot := 4, constantValue := 0 }, { name := "DigitOnes", type := (.array .byte), accessFlags := 24, slot := 5, constantValue := 0 }, { name := "value", type := .int, accessFlags := 18, slot := 0, constantValue := 0 }, { name := "SIZE", type := .int, accessFlags := 25, slot := 6, constantValue := 0 }, { name := "BYTES", type := .int, accessFlags := 25, slot := 7, constantValue := 0 }, { name := "serialVersionUID", type := .long, accessFlags := 26, slot := 8, constantValue := 0 }]
  methods := #[k13m0, k13m1]
  instanceTypes := #[.int]
  staticTypes := #[.int, .int, (.object "java/lang/Class"), (.array .char), (.array .byte), (.array .byte), .int, .int, .long]
  resolved := Array.replicate 453 none
  statics := none }

def pool14 : Array CpInfo := pool [(2, .class_ 4), (1, u "java/lang/Object"), (0, u "<init>"), (0, u "()V"), (0, .class_ 8), (0, u "java/lang/Integer"), (7, .class_ 18), (1, u "java/lang/Integer$IntegerCache"), (0, u "$assertionsDisabled"), (0, u "Z"), (26, u "high"), (0, u "I"), (8, u "archivedCache"), (0, u "[Ljava/lang/Integer;"), (12, u "cache"), (0, u "low")] 27

def k14m0 : Method := { name := "<init>", desc := "()V", sig := { parameters := [], returnType := none }, accessFlags := 2, code := none }
/-- java/lang/Integer$IntegerCache -/
def k14 : Class := { plain "java/lang/Integer$IntegerCache" (some 0) with
  accessFlags := 48
  interfaces := #[]
  cf := some (fileOf pool14 16 #[.nestHost 7] #[{ accessFlags := 2, nameIndex := 5, descriptorIndex := 6, attributes := #[] }] 48 2 #[] #[{ accessFlags := 24, nameIndex := 72, descriptorIndex := 48, attributes := #[] }, { accessFlags := 24, nameIndex := 47, descriptorIndex := 48, attributes := #[] }, { accessFlags := 24, nameIndex := 71, descriptorIndex := 58, attributes := #[] }, { accessFlags := 8, nameIndex := 57, descriptorIndex := 58, attributes := #[] }, { accessFlags := 4120, nameIndex := 19, descriptorIndex := 20, attributes := #[] }])
  fields := #[{ name := "low", type := .int, accessFlags := 24, slot := 0, constantValue := 0 }, { name := "high", type := .int, accessFlags := 24, slot := 1, constantValue := 0 }, { name := "cache", type := (.array (.object "java/lang/Integer")), accessFlags := 24, slot := 2, constantValue := 0 }, { name := "archivedCache", type := (.array (.object "java/lang/Integer")), accessFlags := 8, slot := 3, constantValue := 0 }, { name := "$assertionsDisabled", type := .boolean, accessFlags := 4120, slot := 4, constantValue := 0 }]
  methods := #[k14m0]
  instanceTypes := #[]
  staticTypes := #[.int, .int, (.array (.object "java/lang/Integer")), (.array (.object "java/lang/Integer")), .boolean]
  resolved := Array.replicate 100 none
  statics := some 1 }

def pool15 : Array CpInfo := pool [(1, u "java/lang/Cloneable"), (0, .class_ 1), (0, u "java/lang/Object"), (0, .class_ 3)] 3

/-- java/lang/Cloneable -/
def k15 : Class := { plain "java/lang/Cloneable" (some 0) with
  accessFlags := 1537
  interfaces := #[]
  cf := some (fileOf pool15 2 #[] #[] 1537 4 #[] #[])
  fields := #[]
  methods := #[]
  instanceTypes := #[]
  staticTypes := #[]
  resolved := Array.replicate 8 none
  statics := none }

/-- the primitive byte -/
def k16 : Class := { plain "byte" none with kind := .primitive 'B', accessFlags := 0x411 }
/-- [B -/
def k17 : Class := { plain "[B" (some 0) with kind := .array 16 .byte, interfaces := #[15, 5], accessFlags := 1041 }

/-- the primitive int -/
def k18 : Class := { plain "int" none with kind := .primitive 'I', accessFlags := 0x411 }
/-- [I -/
def k19 : Class := { plain "[I" (some 0) with kind := .array 18 .int, interfaces := #[15, 5], accessFlags := 1041 }

/-- [Ljava/lang/Integer; -/
def k20 : Class := { plain "[Ljava/lang/Integer;" (some 0) with kind := .array 13 (.object "java/lang/Integer"), interfaces := #[15, 5], accessFlags := 1041 }

def heap : Heap := #[{ cls := 7, slots := #[.ref 3, .ref 4, .ref 5, .ref 6, .null, .null], vm := .statics 7 },
  { cls := 14, slots := #[.int 0, .int 127, .ref 2, .null, .int 0], vm := .statics 14 },
  { cls := 20, slots := #[.ref 7, .ref 8, .ref 9, .ref 10, .ref 11, .ref 12, .ref 13, .ref 14, .ref 15, .ref 16, .ref 17, .ref 18, .ref 19, .ref 20, .ref 21, .ref 22, .ref 23, .ref 24, .ref 25, .ref 26, .ref 27, .ref 28, .ref 29, .ref 30, .ref 31, .ref 32, .ref 33, .ref 34, .ref 35, .ref 36, .ref 37, .ref 38, .ref 39, .ref 40, .ref 41, .ref 42, .ref 43, .ref 44, .ref 45, .ref 46, .ref 47, .ref 48, .ref 49, .ref 50, .ref 51, .ref 52, .ref 53, .ref 54, .ref 55, .ref 56, .ref 57, .ref 58, .ref 59, .ref 60, .ref 61, .ref 62, .ref 63, .ref 64, .ref 65, .ref 66, .ref 67, .ref 68, .ref 69, .ref 70, .ref 71, .ref 72, .ref 73, .ref 74, .ref 75, .ref 76, .ref 77, .ref 78, .ref 79, .ref 80, .ref 81, .ref 82, .ref 83, .ref 84, .ref 85, .ref 86, .ref 87, .ref 88, .ref 89, .ref 90, .ref 91, .ref 92, .ref 93, .ref 94, .ref 95, .ref 96, .ref 97, .ref 98, .ref 99, .ref 100, .ref 101, .ref 102, .ref 103, .ref 104, .ref 105, .ref 106, .ref 107, .ref 108, .ref 109, .ref 110, .ref 111, .ref 112, .ref 113, .ref 114, .ref 115, .ref 116, .ref 117, .ref 118, .ref 119, .ref 120, .ref 121, .ref 122, .ref 123, .ref 124, .ref 125, .ref 126, .ref 127, .ref 128, .ref 129, .ref 130, .ref 131, .ref 132, .ref 133, .ref 134, .ref 135, .ref 136, .ref 137, .ref 138, .ref 139, .ref 140, .ref 141, .ref 142, .ref 143, .ref 144, .ref 145, .ref 146, .ref 147, .ref 148, .ref 149, .ref 150, .ref 151, .ref 152, .ref 153, .ref 154, .ref 155, .ref 156, .ref 157, .ref 158, .ref 159, .ref 160, .ref 161, .ref 162, .ref 163, .ref 164, .ref 165, .ref 166, .ref 167, .ref 168, .ref 169, .ref 170, .ref 171, .ref 172, .ref 173, .ref 174, .ref 175, .ref 176, .ref 177, .ref 178, .ref 179, .ref 180, .ref 181, .ref 182, .ref 183, .ref 184, .ref 185, .ref 186, .ref 187, .ref 188, .ref 189, .ref 190, .ref 191, .ref 192, .ref 193, .ref 194, .ref 195, .ref 196, .ref 197, .ref 198, .ref 199, .ref 200, .ref 201, .ref 202, .ref 203, .ref 204, .ref 205, .ref 206, .ref 207, .ref 208, .ref 209, .ref 210, .ref 211, .ref 212, .ref 213, .ref 214, .ref 215, .ref 216, .ref 217, .ref 218, .ref 219, .ref 220, .ref 221, .ref 222, .ref 223, .ref 224, .ref 225, .ref 226, .ref 227, .ref 228, .ref 229, .ref 230, .ref 231, .ref 232, .ref 233, .ref 234, .ref 235, .ref 236, .ref 237, .ref 238, .ref 239, .ref 240, .ref 241, .ref 242, .ref 243, .ref 244, .ref 245, .ref 246, .ref 247, .ref 248, .ref 249, .ref 250, .ref 251, .ref 252, .ref 253, .ref 254, .ref 255, .ref 256, .ref 257, .ref 258, .ref 259, .ref 260, .ref 261, .ref 262], vm := .none },
  { cls := 7, slots := #[.null, .int 0, .int 0], vm := .none },
  { cls := 7, slots := #[.null, .int 1, .int 0], vm := .none },
  { cls := 7, slots := #[.null, .int 2, .int 0], vm := .none },
  { cls := 7, slots := #[.null, .int 3, .int 0], vm := .none },
  { cls := 13, slots := #[.int (-128)], vm := .none },
  { cls := 13, slots := #[.int (-127)], vm := .none },
  { cls := 13, slots := #[.int (-126)], vm := .none },
  { cls := 13, slots := #[.int (-125)], vm := .none },
  { cls := 13, slots := #[.int (-124)], vm := .none },
  { cls := 13, slots := #[.int (-123)], vm := .none },
  { cls := 13, slots := #[.int (-122)], vm := .none },
  { cls := 13, slots := #[.int (-121)], vm := .none },
  { cls := 13, slots := #[.int (-120)], vm := .none },
  { cls := 13, slots := #[.int (-119)], vm := .none },
  { cls := 13, slots := #[.int (-118)], vm := .none },
  { cls := 13, slots := #[.int (-117)], vm := .none },
  { cls := 13, slots := #[.int (-116)], vm := .none },
  { cls := 13, slots := #[.int (-115)], vm := .none },
  { cls := 13, slots := #[.int (-114)], vm := .none },
  { cls := 13, slots := #[.int (-113)], vm := .none },
  { cls := 13, slots := #[.int (-112)], vm := .none },
  { cls := 13, slots := #[.int (-111)], vm := .none },
  { cls := 13, slots := #[.int (-110)], vm := .none },
  { cls := 13, slots := #[.int (-109)], vm := .none },
  { cls := 13, slots := #[.int (-108)], vm := .none },
  { cls := 13, slots := #[.int (-107)], vm := .none },
  { cls := 13, slots := #[.int (-106)], vm := .none },
  { cls := 13, slots := #[.int (-105)], vm := .none },
  { cls := 13, slots := #[.int (-104)], vm := .none },
  { cls := 13, slots := #[.int (-103)], vm := .none },
  { cls := 13, slots := #[.int (-102)], vm := .none },
  { cls := 13, slots := #[.int (-101)], vm := .none },
  { cls := 13, slots := #[.int (-100)], vm := .none },
  { cls := 13, slots := #[.int (-99)], vm := .none },
  { cls := 13, slots := #[.int (-98)], vm := .none },
  { cls := 13, slots := #[.int (-97)], vm := .none },
  { cls := 13, slots := #[.int (-96)], vm := .none },
  { cls := 13, slots := #[.int (-95)], vm := .none },
  { cls := 13, slots := #[.int (-94)], vm := .none },
  { cls := 13, slots := #[.int (-93)], vm := .none },
  { cls := 13, slots := #[.int (-92)], vm := .none },
  { cls := 13, slots := #[.int (-91)], vm := .none },
  { cls := 13, slots := #[.int (-90)], vm := .none },
  { cls := 13, slots := #[.int (-89)], vm := .none },
  { cls := 13, slots := #[.int (-88)], vm := .none },
  { cls := 13, slots := #[.int (-87)], vm := .none },
  { cls := 13, slots := #[.int (-86)], vm := .none },
  { cls := 13, slots := #[.int (-85)], vm := .none },
  { cls := 13, slots := #[.int (-84)], vm := .none },
  { cls := 13, slots := #[.int (-83)], vm := .none },
  { cls := 13, slots := #[.int (-82)], vm := .none },
  { cls := 13, slots := #[.int (-81)], vm := .none },
  { cls := 13, slots := #[.int (-80)], vm := .none },
  { cls := 13, slots := #[.int (-79)], vm := .none },
  { cls := 13, slots := #[.int (-78)], vm := .none },
  { cls := 13, slots := #[.int (-77)], vm := .none },
  { cls := 13, slots := #[.int (-76)], vm := .none },
  { cls := 13, slots := #[.int (-75)], vm := .none },
  { cls := 13, slots := #[.int (-74)], vm := .none },
  { cls := 13, slots := #[.int (-73)], vm := .none },
  { cls := 13, slots := #[.int (-72)], vm := .none },
  { cls := 13, slots := #[.int (-71)], vm := .none },
  { cls := 13, slots := #[.int (-70)], vm := .none },
  { cls := 13, slots := #[.int (-69)], vm := .none },
  { cls := 13, slots := #[.int (-68)], vm := .none },
  { cls := 13, slots := #[.int (-67)], vm := .none },
  { cls := 13, slots := #[.int (-66)], vm := .none },
  { cls := 13, slots := #[.int (-65)], vm := .none },
  { cls := 13, slots := #[.int (-64)], vm := .none },
  { cls := 13, slots := #[.int (-63)], vm := .none },
  { cls := 13, slots := #[.int (-62)], vm := .none },
  { cls := 13, slots := #[.int (-61)], vm := .none },
  { cls := 13, slots := #[.int (-60)], vm := .none },
  { cls := 13, slots := #[.int (-59)], vm := .none },
  { cls := 13, slots := #[.int (-58)], vm := .none },
  { cls := 13, slots := #[.int (-57)], vm := .none },
  { cls := 13, slots := #[.int (-56)], vm := .none },
  { cls := 13, slots := #[.int (-55)], vm := .none },
  { cls := 13, slots := #[.int (-54)], vm := .none },
  { cls := 13, slots := #[.int (-53)], vm := .none },
  { cls := 13, slots := #[.int (-52)], vm := .none },
  { cls := 13, slots := #[.int (-51)], vm := .none },
  { cls := 13, slots := #[.int (-50)], vm := .none },
  { cls := 13, slots := #[.int (-49)], vm := .none },
  { cls := 13, slots := #[.int (-48)], vm := .none },
  { cls := 13, slots := #[.int (-47)], vm := .none },
  { cls := 13, slots := #[.int (-46)], vm := .none },
  { cls := 13, slots := #[.int (-45)], vm := .none },
  { cls := 13, slots := #[.int (-44)], vm := .none },
  { cls := 13, slots := #[.int (-43)], vm := .none },
  { cls := 13, slots := #[.int (-42)], vm := .none },
  { cls := 13, slots := #[.int (-41)], vm := .none },
  { cls := 13, slots := #[.int (-40)], vm := .none },
  { cls := 13, slots := #[.int (-39)], vm := .none },
  { cls := 13, slots := #[.int (-38)], vm := .none },
  { cls := 13, slots := #[.int (-37)], vm := .none },
  { cls := 13, slots := #[.int (-36)], vm := .none },
  { cls := 13, slots := #[.int (-35)], vm := .none },
  { cls := 13, slots := #[.int (-34)], vm := .none },
  { cls := 13, slots := #[.int (-33)], vm := .none },
  { cls := 13, slots := #[.int (-32)], vm := .none },
  { cls := 13, slots := #[.int (-31)], vm := .none },
  { cls := 13, slots := #[.int (-30)], vm := .none },
  { cls := 13, slots := #[.int (-29)], vm := .none },
  { cls := 13, slots := #[.int (-28)], vm := .none },
  { cls := 13, slots := #[.int (-27)], vm := .none },
  { cls := 13, slots := #[.int (-26)], vm := .none },
  { cls := 13, slots := #[.int (-25)], vm := .none },
  { cls := 13, slots := #[.int (-24)], vm := .none },
  { cls := 13, slots := #[.int (-23)], vm := .none },
  { cls := 13, slots := #[.int (-22)], vm := .none },
  { cls := 13, slots := #[.int (-21)], vm := .none },
  { cls := 13, slots := #[.int (-20)], vm := .none },
  { cls := 13, slots := #[.int (-19)], vm := .none },
  { cls := 13, slots := #[.int (-18)], vm := .none },
  { cls := 13, slots := #[.int (-17)], vm := .none },
  { cls := 13, slots := #[.int (-16)], vm := .none },
  { cls := 13, slots := #[.int (-15)], vm := .none },
  { cls := 13, slots := #[.int (-14)], vm := .none },
  { cls := 13, slots := #[.int (-13)], vm := .none },
  { cls := 13, slots := #[.int (-12)], vm := .none },
  { cls := 13, slots := #[.int (-11)], vm := .none },
  { cls := 13, slots := #[.int (-10)], vm := .none },
  { cls := 13, slots := #[.int (-9)], vm := .none },
  { cls := 13, slots := #[.int (-8)], vm := .none },
  { cls := 13, slots := #[.int (-7)], vm := .none },
  { cls := 13, slots := #[.int (-6)], vm := .none },
  { cls := 13, slots := #[.int (-5)], vm := .none },
  { cls := 13, slots := #[.int (-4)], vm := .none },
  { cls := 13, slots := #[.int (-3)], vm := .none },
  { cls := 13, slots := #[.int (-2)], vm := .none },
  { cls := 13, slots := #[.int (-1)], vm := .none },
  { cls := 13, slots := #[.int 0], vm := .none },
  { cls := 13, slots := #[.int 1], vm := .none },
  { cls := 13, slots := #[.int 2], vm := .none },
  { cls := 13, slots := #[.int 3], vm := .none },
  { cls := 13, slots := #[.int 4], vm := .none },
  { cls := 13, slots := #[.int 5], vm := .none },
  { cls := 13, slots := #[.int 6], vm := .none },
  { cls := 13, slots := #[.int 7], vm := .none },
  { cls := 13, slots := #[.int 8], vm := .none },
  { cls := 13, slots := #[.int 9], vm := .none },
  { cls := 13, slots := #[.int 10], vm := .none },
  { cls := 13, slots := #[.int 11], vm := .none },
  { cls := 13, slots := #[.int 12], vm := .none },
  { cls := 13, slots := #[.int 13], vm := .none },
  { cls := 13, slots := #[.int 14], vm := .none },
  { cls := 13, slots := #[.int 15], vm := .none },
  { cls := 13, slots := #[.int 16], vm := .none },
  { cls := 13, slots := #[.int 17], vm := .none },
  { cls := 13, slots := #[.int 18], vm := .none },
  { cls := 13, slots := #[.int 19], vm := .none },
  { cls := 13, slots := #[.int 20], vm := .none },
  { cls := 13, slots := #[.int 21], vm := .none },
  { cls := 13, slots := #[.int 22], vm := .none },
  { cls := 13, slots := #[.int 23], vm := .none },
  { cls := 13, slots := #[.int 24], vm := .none },
  { cls := 13, slots := #[.int 25], vm := .none },
  { cls := 13, slots := #[.int 26], vm := .none },
  { cls := 13, slots := #[.int 27], vm := .none },
  { cls := 13, slots := #[.int 28], vm := .none },
  { cls := 13, slots := #[.int 29], vm := .none },
  { cls := 13, slots := #[.int 30], vm := .none },
  { cls := 13, slots := #[.int 31], vm := .none },
  { cls := 13, slots := #[.int 32], vm := .none },
  { cls := 13, slots := #[.int 33], vm := .none },
  { cls := 13, slots := #[.int 34], vm := .none },
  { cls := 13, slots := #[.int 35], vm := .none },
  { cls := 13, slots := #[.int 36], vm := .none },
  { cls := 13, slots := #[.int 37], vm := .none },
  { cls := 13, slots := #[.int 38], vm := .none },
  { cls := 13, slots := #[.int 39], vm := .none },
  { cls := 13, slots := #[.int 40], vm := .none },
  { cls := 13, slots := #[.int 41], vm := .none },
  { cls := 13, slots := #[.int 42], vm := .none },
  { cls := 13, slots := #[.int 43], vm := .none },
  { cls := 13, slots := #[.int 44], vm := .none },
  { cls := 13, slots := #[.int 45], vm := .none },
  { cls := 13, slots := #[.int 46], vm := .none },
  { cls := 13, slots := #[.int 47], vm := .none },
  { cls := 13, slots := #[.int 48], vm := .none },
  { cls := 13, slots := #[.int 49], vm := .none },
  { cls := 13, slots := #[.int 50], vm := .none },
  { cls := 13, slots := #[.int 51], vm := .none },
  { cls := 13, slots := #[.int 52], vm := .none },
  { cls := 13, slots := #[.int 53], vm := .none },
  { cls := 13, slots := #[.int 54], vm := .none },
  { cls := 13, slots := #[.int 55], vm := .none },
  { cls := 13, slots := #[.int 56], vm := .none },
  { cls := 13, slots := #[.int 57], vm := .none },
  { cls := 13, slots := #[.int 58], vm := .none },
  { cls := 13, slots := #[.int 59], vm := .none },
  { cls := 13, slots := #[.int 60], vm := .none },
  { cls := 13, slots := #[.int 61], vm := .none },
  { cls := 13, slots := #[.int 62], vm := .none },
  { cls := 13, slots := #[.int 63], vm := .none },
  { cls := 13, slots := #[.int 64], vm := .none },
  { cls := 13, slots := #[.int 65], vm := .none },
  { cls := 13, slots := #[.int 66], vm := .none },
  { cls := 13, slots := #[.int 67], vm := .none },
  { cls := 13, slots := #[.int 68], vm := .none },
  { cls := 13, slots := #[.int 69], vm := .none },
  { cls := 13, slots := #[.int 70], vm := .none },
  { cls := 13, slots := #[.int 71], vm := .none },
  { cls := 13, slots := #[.int 72], vm := .none },
  { cls := 13, slots := #[.int 73], vm := .none },
  { cls := 13, slots := #[.int 74], vm := .none },
  { cls := 13, slots := #[.int 75], vm := .none },
  { cls := 13, slots := #[.int 76], vm := .none },
  { cls := 13, slots := #[.int 77], vm := .none },
  { cls := 13, slots := #[.int 78], vm := .none },
  { cls := 13, slots := #[.int 79], vm := .none },
  { cls := 13, slots := #[.int 80], vm := .none },
  { cls := 13, slots := #[.int 81], vm := .none },
  { cls := 13, slots := #[.int 82], vm := .none },
  { cls := 13, slots := #[.int 83], vm := .none },
  { cls := 13, slots := #[.int 84], vm := .none },
  { cls := 13, slots := #[.int 85], vm := .none },
  { cls := 13, slots := #[.int 86], vm := .none },
  { cls := 13, slots := #[.int 87], vm := .none },
  { cls := 13, slots := #[.int 88], vm := .none },
  { cls := 13, slots := #[.int 89], vm := .none },
  { cls := 13, slots := #[.int 90], vm := .none },
  { cls := 13, slots := #[.int 91], vm := .none },
  { cls := 13, slots := #[.int 92], vm := .none },
  { cls := 13, slots := #[.int 93], vm := .none },
  { cls := 13, slots := #[.int 94], vm := .none },
  { cls := 13, slots := #[.int 95], vm := .none },
  { cls := 13, slots := #[.int 96], vm := .none },
  { cls := 13, slots := #[.int 97], vm := .none },
  { cls := 13, slots := #[.int 98], vm := .none },
  { cls := 13, slots := #[.int 99], vm := .none },
  { cls := 13, slots := #[.int 100], vm := .none },
  { cls := 13, slots := #[.int 101], vm := .none },
  { cls := 13, slots := #[.int 102], vm := .none },
  { cls := 13, slots := #[.int 103], vm := .none },
  { cls := 13, slots := #[.int 104], vm := .none },
  { cls := 13, slots := #[.int 105], vm := .none },
  { cls := 13, slots := #[.int 106], vm := .none },
  { cls := 13, slots := #[.int 107], vm := .none },
  { cls := 13, slots := #[.int 108], vm := .none },
  { cls := 13, slots := #[.int 109], vm := .none },
  { cls := 13, slots := #[.int 110], vm := .none },
  { cls := 13, slots := #[.int 111], vm := .none },
  { cls := 13, slots := #[.int 112], vm := .none },
  { cls := 13, slots := #[.int 113], vm := .none },
  { cls := 13, slots := #[.int 114], vm := .none },
  { cls := 13, slots := #[.int 115], vm := .none },
  { cls := 13, slots := #[.int 116], vm := .none },
  { cls := 13, slots := #[.int 117], vm := .none },
  { cls := 13, slots := #[.int 118], vm := .none },
  { cls := 13, slots := #[.int 119], vm := .none },
  { cls := 13, slots := #[.int 120], vm := .none },
  { cls := 13, slots := #[.int 121], vm := .none },
  { cls := 13, slots := #[.int 122], vm := .none },
  { cls := 13, slots := #[.int 123], vm := .none },
  { cls := 13, slots := #[.int 124], vm := .none },
  { cls := 13, slots := #[.int 125], vm := .none },
  { cls := 13, slots := #[.int 126], vm := .none },
  { cls := 13, slots := #[.int 127], vm := .none }]
def classes : Array Class := #[k0, k1, k2, k3, k4, k5, k6, k7, k8, k9, k10, k11, k12, k13, k14, k15, k16, k17, k18, k19, k20]
def interned : List (Array UInt16 × Addr) := []
def slotsUsed : Nat := 535
def theMethod : MethodId := ⟨1, 2⟩
def args0 : Array Value := #[.int 5, .int 6, .int 5, .int 6, .int 5]
def aboutOver (below : List Frame) : State where
  vm := { classes := classes, interned := interned.toArray }
  heap := heap
  slotsUsed := slotsUsed
  threads := #[{ frames := .invoking theMethod args0 :: below }]
def below0 : List Frame := [.native { method := ⟨0, 0⟩, args := #[] }]
def about1 : State := aboutOver below0
def p0 : Program := .bare "" "" ""
def e0 : Env := launch0.env 0 0 0
theorem w_frames : about1.frames = Frame.invoking theMethod args0 :: below0 := rfl
set_option maxRecDepth 65536 in
theorem w_args : argsFit about1.vm theMethod args0 = true := by decide +kernel
set_option maxRecDepth 65536 in
theorem w_heap : heapFits about1 = true := by decide +kernel
set_option maxRecDepth 65536 in
theorem w_runnable : about1.curStatus? = some .runnable := by decide +kernel
set_option maxRecDepth 65536 in
theorem w_alone : about1.alone = true := by decide +kernel
set_option maxRecDepth 65536 in
theorem w_named : about1.methodNamed? x = some theMethod := by decide +kernel
set_option maxRecDepth 65536 in
theorem w_hears : about1.hears theMethod below0 = true := by decide +kernel
set_option maxRecDepth 65536 in
theorem w_ripe : about1.ripe theMethod args0 below0 = true := by decide +kernel
theorem w_running : about1.status = .running := rfl
set_option maxRecDepth 65536 in
theorem w_room : about1.hasRoom e0.platform room_1 = true :=
  launch0.hasRoom_least _ room_1 (by decide +kernel) (by decide +kernel) (by decide +kernel) (by decide +kernel) (by decide +kernel) (by decide +kernel)
theorem allAtoms_all (ts : List Jvm.Cond) (a : Array Jvm.Value) (st : Jvm.State) : (allAtoms ts).before a st = ts.all (fun c => c.before a st) := by
  induction ts with
  | nil => rfl
  | cons c t ih =>
    show (Jvm.Cond.and c (allAtoms t)).before a st = _
    rw [Jvm.Cond.before_and, ih, List.all_cons]
def words1 : List Jvm.Cond := Jvm.Cond.code x code maxLocals ret :: tables_1
/-- a 'code' word, met by the world's own term for the bytes: nothing is compared byte by byte -/
theorem code_word {y : MethodName} {bytes : ByteArray} {mx : Nat} {rt : Option FieldType} {a : Array Value} {s : State} {m : MethodId} {meth : Method} {c : Code} (h1 : s.methodNamed? y = some m) (h2 : s.vm.method? m = some meth) (h3 : meth.code = some c) (h4 : c.code = bytes)
    (h5 : (c.maxLocals == mx && c.exceptionTable.isEmpty && decide (c.maxStack ≤ mostOperands) && decide (meth.sig.returnType = rt) && !meth.locks && decide (parseMethodDescriptor y.desc = some meth.sig)) = true) : (Jvm.Cond.code y bytes mx rt).before a s = true := by
  simp only [Bool.and_eq_true, beq_iff_eq, Bool.not_eq_true', decide_eq_true_eq] at h5
  obtain ⟨⟨⟨⟨⟨g1, g2⟩, g3⟩, g4⟩, g5⟩, g6⟩ := h5
  simp [Cond.before, Cond.holds, Cond.value, h1, h2, h3, h4, g1, g2, g3, g4, g5, g6]
def isCode : Jvm.Cond → Bool
  | .code _ _ _ _ => true
  | _ => false
theorem all_split {L : List Jvm.Cond} {P : Jvm.Cond → Bool} (h1 : L.all (fun c => isCode c || P c) = true) (h2 : ∀ c ∈ L.filter isCode, P c = true) : L.all P = true := by
  refine List.all_eq_true.mpr fun c hc => ?_
  have h := List.all_eq_true.mp h1 c hc
  rcases Bool.eq_false_or_eq_true (isCode c) with hi | hi
  · exact h2 c (List.mem_filter.mpr ⟨hc, hi⟩)
  · simpa [hi] using h
set_option maxRecDepth 65536 in
theorem w_c0 : (Jvm.Cond.code x code maxLocals ret).before args0 about1 = true := code_word (m := ⟨1, 2⟩) (meth := k1m2) (c := k1c2) (by decide +kernel) rfl rfl rfl (by decide +kernel)
set_option maxRecDepth 65536 in
theorem w_c1 : (Jvm.Cond.code ({ cls := "com/example/tagform/tagform/schema/TagEqualsPinLaw", name := "cls", desc := "(I)Lcom/example/tagform/tagform/ber/TagClass;" } : Jvm.MethodName) method_2_code (1 : Nat) (Option.some (Jvm.ClassFile.FieldType.object "com/example/tagform/tagform/ber/TagClass"))).before args0 about1 = true := code_word (m := ⟨1, 1⟩) (meth := k1m1) (c := k1c1) (by decide +kernel) rfl rfl rfl (by decide +kernel)
set_option maxRecDepth 65536 in
theorem w_c2 : (Jvm.Cond.code ({ cls := "com/example/tagform/tagform/schema/Tag", name := "<init>", desc := "(Lcom/example/tagform/tagform/ber/TagClass;I)V" } : Jvm.MethodName) prog_149_method_1_code (3 : Nat) (Option.none : Option Jvm.ClassFile.FieldType)).before args0 about1 = true := code_word (m := ⟨2, 0⟩) (meth := k2m0) (c := k2c0) (by decide +kernel) rfl rfl rfl (by decide +kernel)
set_option maxRecDepth 65536 in
theorem w_c3 : (Jvm.Cond.code ({ cls := "java/lang/Object", name := "<init>", desc := "()V" } : Jvm.MethodName) object_method_1_code (1 : Nat) (Option.none : Option Jvm.ClassFile.FieldType)).before args0 about1 = true := code_word (m := ⟨0, 0⟩) (meth := k0m0) (c := k0c0) (by decide +kernel) rfl rfl rfl (by decide +kernel)
set_option maxRecDepth 65536 in
theorem w_c4 : (Jvm.Cond.code ({ cls := "java/util/Objects", name := "requireNonNull", desc := "(Ljava/lang/Object;Ljava/lang/String;)Ljava/lang/Object;" } : Jvm.MethodName) jdk_31_method_11_code (2 : Nat) (Option.some (Jvm.ClassFile.FieldType.object "java/lang/Object"))).before args0 about1 = true := code_word (m := ⟨11, 1⟩) (meth := k11m1) (c := k11c1) (by decide +kernel) rfl rfl rfl (by decide +kernel)
set_option maxRecDepth 65536 in
theorem w_c5 : (Jvm.Cond.code ({ cls := "com/example/tagform/tagform/schema/Tag", name := "equals", desc := "(Ljava/lang/Object;)Z" } : Jvm.MethodName) prog_149_method_4_code (3 : Nat) (Option.some Jvm.ClassFile.FieldType.boolean)).before args0 about1 = true := code_word (m := ⟨2, 1⟩) (meth := k2m1) (c := k2c1) (by decide +kernel) rfl rfl rfl (by decide +kernel)
set_option maxRecDepth 65536 in
theorem w_c6 : (Jvm.Cond.code ({ cls := "java/lang/Integer", name := "valueOf", desc := "(I)Ljava/lang/Integer;" } : Jvm.MethodName) jdk_33_method_22_code (1 : Nat) (Option.some (Jvm.ClassFile.FieldType.object "java/lang/Integer"))).before args0 about1 = true := code_word (m := ⟨13, 0⟩) (meth := k13m0) (c := k13c0) (by decide +kernel) rfl rfl rfl (by decide +kernel)
set_option maxRecDepth 65536 in
theorem w_c7 : (Jvm.Cond.code ({ cls := "java/lang/Integer", name := "<init>", desc := "(I)V" } : Jvm.MethodName) jdk_33_method_23_code (2 : Nat) (Option.none : Option Jvm.ClassFile.FieldType)).before args0 about1 = true := code_word (m := ⟨13, 1⟩) (meth := k13m1) (c := k13c1) (by decide +kernel) rfl rfl rfl (by decide +kernel)
set_option maxRecDepth 65536 in
theorem w_c8 : (Jvm.Cond.code ({ cls := "java/lang/Number", name := "<init>", desc := "()V" } : Jvm.MethodName) jdk_18_method_1_code (1 : Nat) (Option.none : Option Jvm.ClassFile.FieldType)).before args0 about1 = true := code_word (m := ⟨12, 0⟩) (meth := k12m0) (c := k12c0) (by decide +kernel) rfl rfl rfl (by decide +kernel)
def codes1 : List Jvm.Cond := [Jvm.Cond.code x code maxLocals ret, Jvm.Cond.code ({ cls := "com/example/tagform/tagform/schema/TagEqualsPinLaw", name := "cls", desc := "(I)Lcom/example/tagform/tagform/ber/TagClass;" } : Jvm.MethodName) method_2_code (1 : Nat) (Option.some (Jvm.ClassFile.FieldType.object "com/example/tagform/tagform/ber/TagClass")), Jvm.Cond.code ({ cls := "com/example/tagform/tagform/schema/Tag", name := "<init>", desc := "(Lcom/example/tagform/tagform/ber/TagClass;I)V" } : Jvm.MethodName) prog_149_method_1_code (3 : Nat) (Option.none : Option Jvm.ClassFile.FieldType), Jvm.Cond.code ({ cls := "java/lang/Object", name := "<init>", desc := "()V" } : Jvm.MethodName) object_method_1_code (1 : Nat) (Option.none : Option Jvm.ClassFile.FieldType), Jvm.Cond.code ({ cls := "java/util/Objects", name := "requireNonNull", desc := "(Ljava/lang/Object;Ljava/lang/String;)Ljava/lang/Object;" } : Jvm.MethodName) jdk_31_method_11_code (2 : Nat) (Option.some (Jvm.ClassFile.FieldType.object "java/lang/Object")), Jvm.Cond.code ({ cls := "com/example/tagform/tagform/schema/Tag", name := "equals", desc := "(Ljava/lang/Object;)Z" } : Jvm.MethodName) prog_149_method_4_code (3 : Nat) (Option.some Jvm.ClassFile.FieldType.boolean), Jvm.Cond.code ({ cls := "java/lang/Integer", name := "valueOf", desc := "(I)Ljava/lang/Integer;" } : Jvm.MethodName) jdk_33_method_22_code (1 : Nat) (Option.some (Jvm.ClassFile.FieldType.object "java/lang/Integer")), Jvm.Cond.code ({ cls := "java/lang/Integer", name := "<init>", desc := "(I)V" } : Jvm.MethodName) jdk_33_method_23_code (2 : Nat) (Option.none : Option Jvm.ClassFile.FieldType), Jvm.Cond.code ({ cls := "java/lang/Number", name := "<init>", desc := "()V" } : Jvm.MethodName) jdk_18_method_1_code (1 : Nat) (Option.none : Option Jvm.ClassFile.FieldType)]
set_option maxRecDepth 65536 in
theorem codes_eq : words1.filter isCode = codes1 := rfl
theorem w_codes : ∀ c ∈ words1.filter isCode, c.before args0 about1 = true := by
  rw [codes_eq]
  intro c hc
  simp only [codes1, List.mem_cons, List.not_mem_nil, or_false] at hc
  rcases hc with rfl | rfl | rfl | rfl | rfl | rfl | rfl | rfl | rfl
  · exact w_c0
  · exact w_c1
  · exact w_c2
  · exact w_c3
  · exact w_c4
  · exact w_c5
  · exact w_c6
  · exact w_c7
  · exact w_c8
set_option maxRecDepth 65536 in
theorem w_t1 : (words1.take 24).all (fun c => isCode c || c.before args0 about1) = true := by decide +kernel
set_option maxRecDepth 65536 in
theorem w_t2 : ((words1.drop 24).take 24).all (fun c => isCode c || c.before args0 about1) = true := by decide +kernel
set_option maxRecDepth 65536 in
theorem w_t3 : (((words1.drop 24).drop 24).take 24).all (fun c => isCode c || c.before args0 about1) = true := by decide +kernel
set_option maxRecDepth 65536 in
theorem w_t4 : (((words1.drop 24).drop 24).drop 24).all (fun c => isCode c || c.before args0 about1) = true := by decide +kernel
theorem w_tables : (allAtoms (Jvm.Cond.code x code maxLocals ret :: tables_1)).before args0 about1 = true := by
  rw [allAtoms_all]
  show words1.all (fun c => c.before args0 about1) = true
  refine all_split ?_ w_codes
  rw [← List.take_append_drop 24 words1, List.all_append, w_t1, ← List.take_append_drop 24 (words1.drop 24), List.all_append, w_t2, ← List.take_append_drop 24 ((words1.drop 24).drop 24), List.all_append, w_t3, w_t4]
  rfl
set_option maxRecDepth 65536 in
theorem w_rest : rest_1_c.before args0 about1 = true := by decide +kernel
set_option maxRecDepth 65536 in
theorem w_case : (Jvm.Cond.and given_1 narrow_1).before args0 about1 = true := by decide +kernel
theorem w_applies : (headSpec (Jvm.Cond.code x code maxLocals ret :: tables_1) room_1).applies x e0.platform about1 = true :=
  (Spec.applies_iff w_frames).mpr ⟨w_running, w_runnable, w_alone, w_named, w_hears, w_ripe, w_room, w_tables⟩
theorem atStart : AtStart classFile x code maxLocals ret World_1 tables_1 room_1 Calls_1 rest_1 Pre_1 launch0 p0 e0 about1 theMethod args0 below0 :=
  ⟨lists_1, trivial, launch0.admits_env _ _ _, launch0.least_env, fairChoices_fair.cas, fairChoices_fair.clock, w_frames, w_args, w_heap, w_applies, trivial, w_rest, w_case⟩
end start1
theorem witness_1 : WitnessClaimed_1 := ⟨start1.p0, start1.e0, start1.about1, start1.theMethod, start1.args0, start1.below0, start1.atStart⟩
end Jvm.Pilot.@@N@@
