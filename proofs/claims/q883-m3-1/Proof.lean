import JvmDerived
import JvmDerived.Pilot.@@N@@Statement
import JvmDerived.Pilot.@@N@@Code
set_option linter.unusedVariables false
set_option linter.unusedSimpArgs false
namespace Jvm.RoadKit
open Sem ClassFile Op Lib Jvm.Stand Jvm.Free Jvm.LawKit
section OwnKit
variable {p : Program} {l : Launch} {e : Env} {R : Room} {s : State} {m : MethodId} {args : Array Value} {below : List Frame} {meth : Method} {c : Code} {T : State} {locs : List Loc} {cells slots : Nat}
def EndsQ (tb : Tables) (e : Env) (below : List Frame) (s : State) (Qv : Option Value → Heap → List Loc → Prop) (rc rs : Nat) (st : State) : Prop :=
  ∃ s₂ o, Steps tb e below st s₂ ∧ s₂.status = .running ∧ Ended s₂ below o ∧ ∃ v L, o = .returned v ∧ Qv v s₂.heap L ∧ FrameEnd s o s₂ L rc rs
theorem EndsQ.go {tb : Tables} {Qv : Option Value → Heap → List Loc → Prop} {rc rs : Nat} {a b : State} (k : ∀ t, Steps tb e below b t → Steps tb e below a t) (h : EndsQ tb e below s Qv rc rs b) : EndsQ tb e below s Qv rc rs a := by
  obtain ⟨s₂, o, h1, h2⟩ := h
  exact ⟨s₂, o, k _ h1, h2⟩
theorem EndsQ.out (X : Stand p l e R s m args below meth c T locs cells slots) (hlk : meth.locks = false) {Qv : Option Value → Heap → List Loc → Prop} {rc rs : Nat} {v : Option Value} {st : State} (hv : meth.sig.returnType = none → v = none)
    (hs : ∀ fs, (∀ (f : JFrame) (acts : List Action), f.method = m → f.locked = none → f.entered = [] → (doReturn e (T.setTop f) acts v).1 = T.setFrames fs) → Steps p.tables e below st (T.setFrames fs))
    (h1 : cells ≤ rc) (h2 : slots ≤ rs) (hq : Qv v T.heap locs) : EndsQ p.tables e below s Qv rc rs st := by
  obtain ⟨fs, hr, hrun, hended, hW, hsame⟩ := X.leave (v := v) hv hlk
  exact ⟨_, _, hs fs hr, hrun, hended, _, _, rfl, hq, ⟨_, rfl⟩, hW, hsame.mono h1 h2⟩
theorem EndsQ.retI (X : Stand p l e R s m args below meth c T locs cells slots) (hx : p.tables.exec = Jvm.exec) (hlk : meth.locks = false) {Qv : Option Value → Heap → List Loc → Prop} {rc rs pc : Nat} {Ls : Array Slot} {z : Int32} {rest : List Value} (hret : meth.sig.returnType = some .int) (hd : decode c.code pc = .ok (.ireturn, 1))
    (h1 : cells ≤ rc) (h2 : slots ≤ rs) (hq : Qv (some (.int z)) T.heap locs) : EndsQ p.tables e below s Qv rc rs (T.setTop (mkF m pc Ls (.int z :: rest))) := by
  refine EndsQ.out X hlk (v := some (.int z)) (fun h => by rw [hret] at h; cases h) (fun fs hr => ?_) h1 h2 hq
  exact retOut X hx hret rfl (Or.inl ⟨rfl, Or.inl rfl, z, rfl⟩) hd hr
theorem EndsQ.retJ (X : Stand p l e R s m args below meth c T locs cells slots) (hx : p.tables.exec = Jvm.exec) (hlk : meth.locks = false) {Qv : Option Value → Heap → List Loc → Prop} {rc rs pc : Nat} {Ls : Array Slot} {z : Int64} {rest : List Value} (hret : meth.sig.returnType = some .long) (hd : decode c.code pc = .ok (.lreturn, 1))
    (h1 : cells ≤ rc) (h2 : slots ≤ rs) (hq : Qv (some (.long z)) T.heap locs) : EndsQ p.tables e below s Qv rc rs (T.setTop (mkF m pc Ls (.long z :: rest))) := by
  refine EndsQ.out X hlk (v := some (.long z)) (fun h => by rw [hret] at h; cases h) (fun fs hr => ?_) h1 h2 hq
  exact retOut X hx hret rfl (Or.inr (Or.inl ⟨rfl, rfl, z, rfl⟩)) hd hr
theorem EndsQ.retA (X : Stand p l e R s m args below meth c T locs cells slots) (hx : p.tables.exec = Jvm.exec) (hlk : meth.locks = false) {Qv : Option Value → Heap → List Loc → Prop} {rc rs pc : Nat} {Ls : Array Slot} {w : Value} {t : FieldType} {rest : List Value} (hret : meth.sig.returnType = some t) (ht : t.isReference = true) (hw : w.isRef = true) (hn : narrow t w = w) (hd : decode c.code pc = .ok (.areturn, 1))
    (h1 : cells ≤ rc) (h2 : slots ≤ rs) (hq : Qv (some w) T.heap locs) : EndsQ p.tables e below s Qv rc rs (T.setTop (mkF m pc Ls (w :: rest))) := by
  refine EndsQ.out X hlk (v := some w) (fun h => by rw [hret] at h; cases h) (fun fs hr => ?_) h1 h2 hq
  exact retOut X hx hret hn (Or.inr (Or.inr (Or.inr (Or.inr ⟨rfl, ht, hw⟩)))) hd hr
theorem EndsQ.retN (X : Stand p l e R s m args below meth c T locs cells slots) (hx : p.tables.exec = Jvm.exec) (hlk : meth.locks = false) {Qv : Option Value → Heap → List Loc → Prop} {rc rs pc : Nat} {Ls : Array Slot} {z : Int32} {t : FieldType} {rest : List Value} (hret : meth.sig.returnType = some t) (ht : t = .boolean ∨ t = .byte ∨ t = .char ∨ t = .short) (hd : decode c.code pc = .ok (.ireturn, 1))
    (h1 : cells ≤ rc) (h2 : slots ≤ rs) (hq : Qv (some (.int (nar t z))) T.heap locs) : EndsQ p.tables e below s Qv rc rs (T.setTop (mkF m pc Ls (.int z :: rest))) := by
  refine EndsQ.out X hlk (v := some (.int (nar t z))) (fun h => by rw [hret] at h; cases h) (fun fs hr => ?_) h1 h2 hq
  exact Jvm.RoadKit.retN X hx hret ht hd hr
theorem EndsQ.retV (X : Stand p l e R s m args below meth c T locs cells slots) (hx : p.tables.exec = Jvm.exec) (hlk : meth.locks = false) {Qv : Option Value → Heap → List Loc → Prop} {rc rs pc : Nat} {Ls : Array Slot} (hret : meth.sig.returnType = none) (hd : decode c.code pc = .ok (.return_, 1))
    (h1 : cells ≤ rc) (h2 : slots ≤ rs) (hq : Qv none T.heap locs) : EndsQ p.tables e below s Qv rc rs (T.setTop (mkF m pc Ls [])) := by
  refine EndsQ.out X hlk (v := none) (fun _ => rfl) (fun fs hr => ?_) h1 h2 hq
  exact X.returnOut hx hret hd hr
end OwnKit
end Jvm.RoadKit
namespace Jvm.Pilot.@@N@@
open Jvm Jvm.ClassFile Sem Op Lib Jvm.Free Jvm.Stand Jvm.LawKit Jvm.RoadKit Bundle Jvm.Pilot.@@N@@.Jvm.D

theorem own_eqI {args : Array Value} {first s : State} {o : Option Outcome} {idx : List Nat} {t : Term} {k : Int32} (h : (Cond.eq t (.int k)).value args first o s idx = some true) : t.eval args first o idx s = some (.int k) := by
  simp only [Cond.value, Term.eval] at h; cases ht : t.eval args first o idx s with | none => simp [ht] at h | some x => cases x <;> simp [ht] at h ⊢; exact h
theorem own_arr {args : Array Value} {s : State} {t : Term} {ty : FieldType} {a : Addr} {z : Int32} (h : (Cond.arrayOf t ty).value args s none s [] = some true) (ev : t.eval args s none [] s = some (.ref a)) (hl : (Cond.eq (.length t) (.int z)).value args s none s [] = some true) :
    ∃ cl, Arr s s.heap a cl ty ∧ cl.slots.size < 2 ^ 31 ∧ cl.slots.size.toInt32 = z := by
  obtain ⟨cl, A⟩ := Jvm.RoadKit.Arr.start ev h
  obtain ⟨b, cell, e1, e2, e3, e4⟩ := Jvm.Lib.length_spec (own_eqI hl)
  cases ev.symm.trans e1
  cases A.1.symm.trans (Jvm.Lib.arrayAt_spec e2).1
  exact ⟨cl, A, e3, (Value.int.inj e4).symm⟩
theorem own_eqR {args : Array Value} {first s : State} {o : Option Outcome} {idx : List Nat} {t u : Term} {a : Addr} (h : (Cond.eq t u).value args first o s idx = some true) (hu : u.eval args first o idx s = some (.ref a)) : t.eval args first o idx s = some (.ref a) := by
  simp only [Cond.value, hu] at h; cases ht : t.eval args first o idx s with | none => simp [ht] at h | some x => cases x <;> simp [ht] at h ⊢; exact h

def own_pick (k : Int32) (a_SECOND a_MINUTE a_HOUR a_DAY_OF_MONTH a_MONTH a_DAY_OF_WEEK a_DAY_OF_WEEK_FROM_1 a_YEAR : Addr) : Addr := if k = (0 : Int32) then a_SECOND else if k = (1 : Int32) then a_MINUTE else if k = (2 : Int32) then a_HOUR else if k = (3 : Int32) then a_DAY_OF_MONTH else if k = (4 : Int32) then a_MONTH else if k = (5 : Int32) then a_DAY_OF_WEEK else if k = (6 : Int32) then a_DAY_OF_WEEK_FROM_1 else a_YEAR
def own_exp (k : Int32) : Int32 := if k = (0 : Int32) then (60 : Int32) else if k = (1 : Int32) then (60 : Int32) else if k = (2 : Int32) then (24 : Int32) else if k = (3 : Int32) then (31 : Int32) else if k = (4 : Int32) then (12 : Int32) else if k = (5 : Int32) then (8 : Int32) else if k = (6 : Int32) then (7 : Int32) else (230 : Int32)
theorem own_k8 (x : Int32) : ((x &&& (2147483647 : Int32)) % (8 : Int32)) = (0 : Int32) ∨ ((x &&& (2147483647 : Int32)) % (8 : Int32)) = (1 : Int32) ∨ ((x &&& (2147483647 : Int32)) % (8 : Int32)) = (2 : Int32) ∨ ((x &&& (2147483647 : Int32)) % (8 : Int32)) = (3 : Int32) ∨ ((x &&& (2147483647 : Int32)) % (8 : Int32)) = (4 : Int32) ∨ ((x &&& (2147483647 : Int32)) % (8 : Int32)) = (5 : Int32) ∨ ((x &&& (2147483647 : Int32)) % (8 : Int32)) = (6 : Int32) ∨ ((x &&& (2147483647 : Int32)) % (8 : Int32)) = (7 : Int32) := by
  have h1 := c_mask x (2147483647 : Int32) 31 (by decide) rfl
  have h2 := (c_irem (x &&& (2147483647 : Int32)) (8 : Int32) 8 rfl).1 (by omega)
  have e : ∀ (j : Int32) (z : Int), j.toInt = z → ((x &&& (2147483647 : Int32)) % (8 : Int32)).toInt = z → ((x &&& (2147483647 : Int32)) % (8 : Int32)) = j := fun j z hz h => Int32.toInt_inj.mp (h.trans hz.symm)
  generalize ((x &&& (2147483647 : Int32)) % (8 : Int32)) = y at *
  have h3 : y.toInt = 0 ∨ y.toInt = 1 ∨ y.toInt = 2 ∨ y.toInt = 3 ∨ y.toInt = 4 ∨ y.toInt = 5 ∨ y.toInt = 6 ∨ y.toInt = 7 := by omega
  rcases h3 with h | h | h | h | h | h | h | h
  · exact (Or.inl (e 0 0 rfl h))
  · exact Or.inr ((Or.inl (e 1 1 rfl h)))
  · exact Or.inr (Or.inr ((Or.inl (e 2 2 rfl h))))
  · exact Or.inr (Or.inr (Or.inr ((Or.inl (e 3 3 rfl h)))))
  · exact Or.inr (Or.inr (Or.inr (Or.inr ((Or.inl (e 4 4 rfl h))))))
  · exact Or.inr (Or.inr (Or.inr (Or.inr (Or.inr ((Or.inl (e 5 5 rfl h)))))))
  · exact Or.inr (Or.inr (Or.inr (Or.inr (Or.inr (Or.inr ((Or.inl (e 6 6 rfl h))))))))
  · exact Or.inr (Or.inr (Or.inr (Or.inr (Or.inr (Or.inr (Or.inr (((e 7 7 rfl h)))))))))
theorem d1_0 : decode method_2_code 0 = .ok (.iload_n 0, 1) := by decide +kernel
theorem d1_1 : decode method_2_code 1 = .ok (.ifCond .ne 7, 3) := by decide +kernel
theorem d1_4 : decode method_2_code 4 = .ok (.getstatic 7, 3) := by decide +kernel
theorem d1_7 : decode method_2_code 7 = .ok (.areturn, 1) := by decide +kernel
theorem d1_8 : decode method_2_code 8 = .ok (.iload_n 0, 1) := by decide +kernel
theorem d1_9 : decode method_2_code 9 = .ok (.iconst 1, 1) := by decide +kernel
theorem d1_10 : decode method_2_code 10 = .ok (.if_icmp .ne 7, 3) := by decide +kernel
theorem d1_13 : decode method_2_code 13 = .ok (.getstatic 13, 3) := by decide +kernel
theorem d1_16 : decode method_2_code 16 = .ok (.areturn, 1) := by decide +kernel
theorem d1_17 : decode method_2_code 17 = .ok (.iload_n 0, 1) := by decide +kernel
theorem d1_18 : decode method_2_code 18 = .ok (.iconst 2, 1) := by decide +kernel
theorem d1_19 : decode method_2_code 19 = .ok (.if_icmp .ne 7, 3) := by decide +kernel
theorem d1_22 : decode method_2_code 22 = .ok (.getstatic 16, 3) := by decide +kernel
theorem d1_25 : decode method_2_code 25 = .ok (.areturn, 1) := by decide +kernel
theorem d1_26 : decode method_2_code 26 = .ok (.iload_n 0, 1) := by decide +kernel
theorem d1_27 : decode method_2_code 27 = .ok (.iconst 3, 1) := by decide +kernel
theorem d1_28 : decode method_2_code 28 = .ok (.if_icmp .ne 7, 3) := by decide +kernel
theorem d1_31 : decode method_2_code 31 = .ok (.getstatic 19, 3) := by decide +kernel
theorem d1_34 : decode method_2_code 34 = .ok (.areturn, 1) := by decide +kernel
theorem d1_35 : decode method_2_code 35 = .ok (.iload_n 0, 1) := by decide +kernel
theorem d1_36 : decode method_2_code 36 = .ok (.iconst 4, 1) := by decide +kernel
theorem d1_37 : decode method_2_code 37 = .ok (.if_icmp .ne 7, 3) := by decide +kernel
theorem d1_40 : decode method_2_code 40 = .ok (.getstatic 22, 3) := by decide +kernel
theorem d1_43 : decode method_2_code 43 = .ok (.areturn, 1) := by decide +kernel
theorem d1_44 : decode method_2_code 44 = .ok (.iload_n 0, 1) := by decide +kernel
theorem d1_45 : decode method_2_code 45 = .ok (.iconst 5, 1) := by decide +kernel
theorem d1_46 : decode method_2_code 46 = .ok (.if_icmp .ne 7, 3) := by decide +kernel
theorem d1_49 : decode method_2_code 49 = .ok (.getstatic 25, 3) := by decide +kernel
theorem d1_52 : decode method_2_code 52 = .ok (.areturn, 1) := by decide +kernel
theorem d1_53 : decode method_2_code 53 = .ok (.iload_n 0, 1) := by decide +kernel
theorem d1_54 : decode method_2_code 54 = .ok (.bipush 6, 2) := by decide +kernel
theorem d1_56 : decode method_2_code 56 = .ok (.if_icmp .ne 7, 3) := by decide +kernel
theorem d1_59 : decode method_2_code 59 = .ok (.getstatic 28, 3) := by decide +kernel
theorem d1_62 : decode method_2_code 62 = .ok (.areturn, 1) := by decide +kernel
theorem d1_63 : decode method_2_code 63 = .ok (.getstatic 31, 3) := by decide +kernel
theorem d1_66 : decode method_2_code 66 = .ok (.areturn, 1) := by decide +kernel
theorem pn_1 : plainName "com/example/sextant/sextant/FieldSizePinLaw" = true := by first | (simp [plainName, overriddenIn]; done) | decide +kernel
theorem d3_0 : decode method_3_code 0 = .ok (.iload_n 0, 1) := by decide +kernel
theorem d3_1 : decode method_3_code 1 = .ok (.ifCond .ne 6, 3) := by decide +kernel
theorem d3_4 : decode method_3_code 4 = .ok (.bipush 60, 2) := by decide +kernel
theorem d3_6 : decode method_3_code 6 = .ok (.ireturn, 1) := by decide +kernel
theorem d3_7 : decode method_3_code 7 = .ok (.iload_n 0, 1) := by decide +kernel
theorem d3_8 : decode method_3_code 8 = .ok (.iconst 1, 1) := by decide +kernel
theorem d3_9 : decode method_3_code 9 = .ok (.if_icmp .ne 6, 3) := by decide +kernel
theorem d3_12 : decode method_3_code 12 = .ok (.bipush 60, 2) := by decide +kernel
theorem d3_14 : decode method_3_code 14 = .ok (.ireturn, 1) := by decide +kernel
theorem d3_15 : decode method_3_code 15 = .ok (.iload_n 0, 1) := by decide +kernel
theorem d3_16 : decode method_3_code 16 = .ok (.iconst 2, 1) := by decide +kernel
theorem d3_17 : decode method_3_code 17 = .ok (.if_icmp .ne 6, 3) := by decide +kernel
theorem d3_20 : decode method_3_code 20 = .ok (.bipush 24, 2) := by decide +kernel
theorem d3_22 : decode method_3_code 22 = .ok (.ireturn, 1) := by decide +kernel
theorem d3_23 : decode method_3_code 23 = .ok (.iload_n 0, 1) := by decide +kernel
theorem d3_24 : decode method_3_code 24 = .ok (.iconst 3, 1) := by decide +kernel
theorem d3_25 : decode method_3_code 25 = .ok (.if_icmp .ne 6, 3) := by decide +kernel
theorem d3_28 : decode method_3_code 28 = .ok (.bipush 31, 2) := by decide +kernel
theorem d3_30 : decode method_3_code 30 = .ok (.ireturn, 1) := by decide +kernel
theorem d3_31 : decode method_3_code 31 = .ok (.iload_n 0, 1) := by decide +kernel
theorem d3_32 : decode method_3_code 32 = .ok (.iconst 4, 1) := by decide +kernel
theorem d3_33 : decode method_3_code 33 = .ok (.if_icmp .ne 6, 3) := by decide +kernel
theorem d3_36 : decode method_3_code 36 = .ok (.bipush 12, 2) := by decide +kernel
theorem d3_38 : decode method_3_code 38 = .ok (.ireturn, 1) := by decide +kernel
theorem d3_39 : decode method_3_code 39 = .ok (.iload_n 0, 1) := by decide +kernel
theorem d3_40 : decode method_3_code 40 = .ok (.iconst 5, 1) := by decide +kernel
theorem d3_41 : decode method_3_code 41 = .ok (.if_icmp .ne 6, 3) := by decide +kernel
theorem d3_44 : decode method_3_code 44 = .ok (.bipush 8, 2) := by decide +kernel
theorem d3_46 : decode method_3_code 46 = .ok (.ireturn, 1) := by decide +kernel
theorem d3_47 : decode method_3_code 47 = .ok (.iload_n 0, 1) := by decide +kernel
theorem d3_48 : decode method_3_code 48 = .ok (.bipush 6, 2) := by decide +kernel
theorem d3_50 : decode method_3_code 50 = .ok (.if_icmp .ne 6, 3) := by decide +kernel
theorem d3_53 : decode method_3_code 53 = .ok (.bipush 7, 2) := by decide +kernel
theorem d3_55 : decode method_3_code 55 = .ok (.ireturn, 1) := by decide +kernel
theorem d3_56 : decode method_3_code 56 = .ok (.sipush 230, 3) := by decide +kernel
theorem d3_59 : decode method_3_code 59 = .ok (.ireturn, 1) := by decide +kernel
theorem pn_3 : plainName "com/example/sextant/sextant/FieldSizePinLaw" = true := by first | (simp [plainName, overriddenIn]; done) | decide +kernel
theorem d2_0 : decode prog_7_method_7_code 0 = .ok (.aload_n 0, 1) := by decide +kernel
theorem d2_1 : decode prog_7_method_7_code 1 = .ok (.getfield 55, 3) := by decide +kernel
theorem d2_4 : decode prog_7_method_7_code 4 = .ok (.aload_n 0, 1) := by decide +kernel
theorem d2_5 : decode prog_7_method_7_code 5 = .ok (.getfield 51, 3) := by decide +kernel
theorem d2_8 : decode prog_7_method_7_code 8 = .ok (.isub, 1) := by decide +kernel
theorem d2_9 : decode prog_7_method_7_code 9 = .ok (.iconst 1, 1) := by decide +kernel
theorem d2_10 : decode prog_7_method_7_code 10 = .ok (.iadd, 1) := by decide +kernel
theorem d2_11 : decode prog_7_method_7_code 11 = .ok (.ireturn, 1) := by decide +kernel
theorem pn_2 : plainName "com/example/sextant/sextant/Field" = true := by first | (simp [plainName, overriddenIn]; done) | decide +kernel
theorem pn_0 : plainName "com/example/sextant/sextant/FieldSizePinLaw" = true := by first | (simp [plainName, overriddenIn]; done) | decide +kernel
theorem pd_0 : parseMethodDescriptor "(I)Lcom/example/sextant/sextant/Field;" = some ⟨[.int], some (.object "com/example/sextant/sextant/Field")⟩ := by decide +kernel
theorem pd_1 : parseMethodDescriptor "()I" = some ⟨[], some .int⟩ := by decide +kernel
theorem pd_2 : parseMethodDescriptor "(I)I" = some ⟨[.int], some .int⟩ := by decide +kernel
theorem ef_1 (m : MethodId) (x0 : Int32) : entryFrame m #[(.int x0)] 1 = mkF m 0 #[.val (.int x0)] [] := by first | (simp [entryFrame, mkF, argsToLocals, Value.category]; done) | rfl
def Q1 (Z : State) (p1 : Int32) (a_SECOND : Addr) (a_MINUTE : Addr) (a_HOUR : Addr) (a_DAY_OF_MONTH : Addr) (a_MONTH : Addr) (a_DAY_OF_WEEK : Addr) (a_DAY_OF_WEEK_FROM_1 : Addr) (a_YEAR : Addr) (h0 : Heap) (n0 : Nat) (v : Option Value) (h : Heap) (L : List Loc) : Prop := v = some (.ref (own_pick p1 a_SECOND a_MINUTE a_HOUR a_DAY_OF_MONTH a_MONTH a_DAY_OF_WEEK a_DAY_OF_WEEK_FROM_1 a_YEAR)) ∧ Fr n0 L ∧ h = h0
set_option maxRecDepth 65536 in
set_option maxHeartbeats 40000000 in
theorem rm1 (l : Launch) (Z : State) (a0 : Array Value) (hw : ∀ d ∈ tables_1, d.before a0 Z = true) (ws : List Jvm.Cond) (p1 : Int32) (a_SECOND : Addr) (a_MINUTE : Addr) (a_HOUR : Addr) (a_DAY_OF_MONTH : Addr) (a_MONTH : Addr) (a_DAY_OF_WEEK : Addr) (a_DAY_OF_WEEK_FROM_1 : Addr) (a_YEAR : Addr) (h0 : Heap) (n0 : Nat) (Z0 : n0 ≤ h0.size) (S_SECOND : Sta Z h0 "com/example/sextant/sextant/Field" "SECOND" "Lcom/example/sextant/sextant/Field;" (.ref a_SECOND)) (S_MINUTE : Sta Z h0 "com/example/sextant/sextant/Field" "MINUTE" "Lcom/example/sextant/sextant/Field;" (.ref a_MINUTE)) (S_HOUR : Sta Z h0 "com/example/sextant/sextant/Field" "HOUR" "Lcom/example/sextant/sextant/Field;" (.ref a_HOUR)) (S_DAY_OF_MONTH : Sta Z h0 "com/example/sextant/sextant/Field" "DAY_OF_MONTH" "Lcom/example/sextant/sextant/Field;" (.ref a_DAY_OF_MONTH)) (S_MONTH : Sta Z h0 "com/example/sextant/sextant/Field" "MONTH" "Lcom/example/sextant/sextant/Field;" (.ref a_MONTH)) (S_DAY_OF_WEEK : Sta Z h0 "com/example/sextant/sextant/Field" "DAY_OF_WEEK" "Lcom/example/sextant/sextant/Field;" (.ref a_DAY_OF_WEEK)) (S_DAY_OF_WEEK_FROM_1 : Sta Z h0 "com/example/sextant/sextant/Field" "DAY_OF_WEEK_FROM_1" "Lcom/example/sextant/sextant/Field;" (.ref a_DAY_OF_WEEK_FROM_1)) (S_YEAR : Sta Z h0 "com/example/sextant/sextant/Field" "YEAR" "Lcom/example/sextant/sextant/Field;" (.ref a_YEAR)) :
    MetFree l (⟨"com/example/sextant/sextant/FieldSizePinLaw", "pick", "(I)Lcom/example/sextant/sextant/Field;"⟩ : MethodName) (head1 (Jvm.Cond.code (⟨"com/example/sextant/sextant/FieldSizePinLaw", "pick", "(I)Lcom/example/sextant/sextant/Field;"⟩ : MethodName) method_2_code 1 (some (.object "com/example/sextant/sextant/Field")) :: ws) ({ frames := 0, cells := 0, slots := 0, locals := 0 } : Room)) (fun a U => a = #[(.int p1)] ∧ Z.Warmed39 U.vm ∧ U.heap = h0) (fun _ _ _ _ _ => True) (fun _ U o U' => ∃ v L, o = .returned v ∧ Q1 Z p1 a_SECOND a_MINUTE a_HOUR a_DAY_OF_MONTH a_MONTH a_DAY_OF_WEEK a_DAY_OF_WEEK_FROM_1 a_YEAR h0 n0 v U'.heap L ∧ FrameEnd U o U' L ({ frames := 0, cells := 0, slots := 0, locals := 0 } : Room).cells ({ frames := 0, cells := 0, slots := 0, locals := 0 } : Room).slots) := by
  refine MetFree.of_bodySF (plainFor_of_name pn_1) hisR ?_
  intro p e s m args below meth c s₁ Bd hml0 hP hK
  obtain ⟨rfl, hZ, hh⟩ := hP
  have hx := Bd.exec
  have hby := Bd.bytes
  have hml : c.maxLocals = 1 := hml0
  have hown : s.vm.findClass "com/example/sextant/sextant/FieldSizePinLaw" = some m.cls := findClass_of_methodNamed Bd.named
  have hnm := (name_of_methodNamed Bd.named Bd.method).1
  have X0 : Stand p l e ({ frames := 0, cells := 0, slots := 0, locals := 0 } : Room) s m #[(.int p1)] below meth c s₁ [] 0 0 := Stand.of_body Bd
  have e0 : s₁.heap = h0 := by rw [← hh, Bd.state]; rfl
  have N0 := Fr.nil n0
  show EndsQ p.tables e below s (fun v h L => Q1 Z p1 a_SECOND a_MINUTE a_HOUR a_DAY_OF_MONTH a_MONTH a_DAY_OF_WEEK a_DAY_OF_WEEK_FROM_1 a_YEAR h0 n0 v h L) ({ frames := 0, cells := 0, slots := 0, locals := 0 } : Room).cells ({ frames := 0, cells := 0, slots := 0, locals := 0 } : Room).slots _
  refine EndsQ.go (b := s₁.setTop (mkF m 0 #[.val (.int p1)] [])) (fun t k => castTop (ef_1 m p1) k) ?_
  refine EndsQ.go (b := s₁.setTop (mkF m 1 #[.val (.int p1)] [(.int p1)])) (fun t k => ?_) ?_
  · show Steps p.tables e below (s₁.setTop (mkF m 0 #[.val (.int p1)] [])) _
    refine XS.iloadN X0.here hx rfl (hb hby d1_0) rfl ?_
    show Steps p.tables e below (s₁.setTop (mkF m 1 #[.val (.int p1)] [(.int p1)])) _
    exact k
  by_cases hc1_101 : p1 = (0 : Int32)
  · refine EndsQ.go (b := s₁.setTop (mkF m 4 #[.val (.int p1)] [])) (fun t k => ?_) ?_
    · show Steps p.tables e below (s₁.setTop (mkF m 1 #[.val (.int p1)] [(.int p1)])) _
      refine XS.ifNo X0.here hx rfl (hb hby d1_1) rfl ((if0 _ _).trans (teq hc1_101).2) ?_
      show Steps p.tables e below (s₁.setTop (mkF m 4 #[.val (.int p1)] [])) _
      exact k
    obtain ⟨T102, X102, e102, st102⟩ := getS X0 hx hZ hown (host := "") (hw _ (List.mem_of_getElem? (i := 5) rfl)) Via.refl e0 S_SECOND (g := (mkF m 4 #[.val (.int p1)] [])) rfl (hb hby d1_4)
    refine EndsQ.go st102 ?_
    show EndsQ _ _ _ _ _ _ _ (T102.setTop (mkF m 7 #[.val (.int p1)] [(.ref a_SECOND)]))
    refine EndsQ.retA X102 hx Bd.notSynchronized (w := (.ref a_SECOND)) Bd.returns rfl rfl rfl (hb hby d1_7) (by decide) (by decide) ?_
    show Q1 Z p1 a_SECOND a_MINUTE a_HOUR a_DAY_OF_MONTH a_MONTH a_DAY_OF_WEEK a_DAY_OF_WEEK_FROM_1 a_YEAR h0 n0 (some (.ref a_SECOND)) T102.heap _
    rw [e102]
    exact ⟨by unfold own_pick; rw [if_pos hc1_101], N0, rfl⟩
  · refine EndsQ.go (b := s₁.setTop (mkF m 8 #[.val (.int p1)] [])) (fun t k => ?_) ?_
    · show Steps p.tables e below (s₁.setTop (mkF m 1 #[.val (.int p1)] [(.int p1)])) _
      refine XS.ifYes X0.here hx rfl (pc0 := 1) (pc' := 8) rfl (hb hby d1_1) rfl ((if0 _ _).trans (feq hc1_101).2) (by decide) (by decide) ?_
      show Steps p.tables e below (s₁.setTop (mkF m 8 #[.val (.int p1)] [])) _
      exact k
    refine EndsQ.go (b := s₁.setTop (mkF m 10 #[.val (.int p1)] [(.int (1 : Int32)), (.int p1)])) (fun t k => ?_) ?_
    · show Steps p.tables e below (s₁.setTop (mkF m 8 #[.val (.int p1)] [])) _
      refine XS.iloadN X0.here hx rfl (hb hby d1_8) rfl ?_
      show Steps p.tables e below (s₁.setTop (mkF m 9 #[.val (.int p1)] [(.int p1)])) _
      refine XS.iconst X0.here hx rfl (hb hby d1_9) ?_
      show Steps p.tables e below (s₁.setTop (mkF m 10 #[.val (.int p1)] [(.int (1 : Int32)), (.int p1)])) _
      exact k
    by_cases hc10_103 : p1 = (1 : Int32)
    · refine EndsQ.go (b := s₁.setTop (mkF m 13 #[.val (.int p1)] [])) (fun t k => ?_) ?_
      · show Steps p.tables e below (s₁.setTop (mkF m 10 #[.val (.int p1)] [(.int (1 : Int32)), (.int p1)])) _
        refine XS.icmpNo X0.here hx rfl (hb hby d1_10) rfl (teq hc10_103).2 ?_
        show Steps p.tables e below (s₁.setTop (mkF m 13 #[.val (.int p1)] [])) _
        exact k
      obtain ⟨T104, X104, e104, st104⟩ := getS X0 hx hZ hown (host := "") (hw _ (List.mem_of_getElem? (i := 28) rfl)) Via.refl e0 S_MINUTE (g := (mkF m 13 #[.val (.int p1)] [])) rfl (hb hby d1_13)
      refine EndsQ.go st104 ?_
      show EndsQ _ _ _ _ _ _ _ (T104.setTop (mkF m 16 #[.val (.int p1)] [(.ref a_MINUTE)]))
      refine EndsQ.retA X104 hx Bd.notSynchronized (w := (.ref a_MINUTE)) Bd.returns rfl rfl rfl (hb hby d1_16) (by decide) (by decide) ?_
      show Q1 Z p1 a_SECOND a_MINUTE a_HOUR a_DAY_OF_MONTH a_MONTH a_DAY_OF_WEEK a_DAY_OF_WEEK_FROM_1 a_YEAR h0 n0 (some (.ref a_MINUTE)) T104.heap _
      rw [e104]
      exact ⟨by unfold own_pick; rw [if_neg hc1_101, if_pos hc10_103], N0, rfl⟩
    · refine EndsQ.go (b := s₁.setTop (mkF m 17 #[.val (.int p1)] [])) (fun t k => ?_) ?_
      · show Steps p.tables e below (s₁.setTop (mkF m 10 #[.val (.int p1)] [(.int (1 : Int32)), (.int p1)])) _
        refine XS.icmpYes X0.here hx rfl (pc0 := 10) (pc' := 17) rfl (hb hby d1_10) rfl (feq hc10_103).2 (by decide) (by decide) ?_
        show Steps p.tables e below (s₁.setTop (mkF m 17 #[.val (.int p1)] [])) _
        exact k
      refine EndsQ.go (b := s₁.setTop (mkF m 19 #[.val (.int p1)] [(.int (2 : Int32)), (.int p1)])) (fun t k => ?_) ?_
      · show Steps p.tables e below (s₁.setTop (mkF m 17 #[.val (.int p1)] [])) _
        refine XS.iloadN X0.here hx rfl (hb hby d1_17) rfl ?_
        show Steps p.tables e below (s₁.setTop (mkF m 18 #[.val (.int p1)] [(.int p1)])) _
        refine XS.iconst X0.here hx rfl (hb hby d1_18) ?_
        show Steps p.tables e below (s₁.setTop (mkF m 19 #[.val (.int p1)] [(.int (2 : Int32)), (.int p1)])) _
        exact k
      by_cases hc19_105 : p1 = (2 : Int32)
      · refine EndsQ.go (b := s₁.setTop (mkF m 22 #[.val (.int p1)] [])) (fun t k => ?_) ?_
        · show Steps p.tables e below (s₁.setTop (mkF m 19 #[.val (.int p1)] [(.int (2 : Int32)), (.int p1)])) _
          refine XS.icmpNo X0.here hx rfl (hb hby d1_19) rfl (teq hc19_105).2 ?_
          show Steps p.tables e below (s₁.setTop (mkF m 22 #[.val (.int p1)] [])) _
          exact k
        obtain ⟨T106, X106, e106, st106⟩ := getS X0 hx hZ hown (host := "") (hw _ (List.mem_of_getElem? (i := 26) rfl)) Via.refl e0 S_HOUR (g := (mkF m 22 #[.val (.int p1)] [])) rfl (hb hby d1_22)
        refine EndsQ.go st106 ?_
        show EndsQ _ _ _ _ _ _ _ (T106.setTop (mkF m 25 #[.val (.int p1)] [(.ref a_HOUR)]))
        refine EndsQ.retA X106 hx Bd.notSynchronized (w := (.ref a_HOUR)) Bd.returns rfl rfl rfl (hb hby d1_25) (by decide) (by decide) ?_
        show Q1 Z p1 a_SECOND a_MINUTE a_HOUR a_DAY_OF_MONTH a_MONTH a_DAY_OF_WEEK a_DAY_OF_WEEK_FROM_1 a_YEAR h0 n0 (some (.ref a_HOUR)) T106.heap _
        rw [e106]
        exact ⟨by unfold own_pick; rw [if_neg hc1_101, if_neg hc10_103, if_pos hc19_105], N0, rfl⟩
      · refine EndsQ.go (b := s₁.setTop (mkF m 26 #[.val (.int p1)] [])) (fun t k => ?_) ?_
        · show Steps p.tables e below (s₁.setTop (mkF m 19 #[.val (.int p1)] [(.int (2 : Int32)), (.int p1)])) _
          refine XS.icmpYes X0.here hx rfl (pc0 := 19) (pc' := 26) rfl (hb hby d1_19) rfl (feq hc19_105).2 (by decide) (by decide) ?_
          show Steps p.tables e below (s₁.setTop (mkF m 26 #[.val (.int p1)] [])) _
          exact k
        refine EndsQ.go (b := s₁.setTop (mkF m 28 #[.val (.int p1)] [(.int (3 : Int32)), (.int p1)])) (fun t k => ?_) ?_
        · show Steps p.tables e below (s₁.setTop (mkF m 26 #[.val (.int p1)] [])) _
          refine XS.iloadN X0.here hx rfl (hb hby d1_26) rfl ?_
          show Steps p.tables e below (s₁.setTop (mkF m 27 #[.val (.int p1)] [(.int p1)])) _
          refine XS.iconst X0.here hx rfl (hb hby d1_27) ?_
          show Steps p.tables e below (s₁.setTop (mkF m 28 #[.val (.int p1)] [(.int (3 : Int32)), (.int p1)])) _
          exact k
        by_cases hc28_107 : p1 = (3 : Int32)
        · refine EndsQ.go (b := s₁.setTop (mkF m 31 #[.val (.int p1)] [])) (fun t k => ?_) ?_
          · show Steps p.tables e below (s₁.setTop (mkF m 28 #[.val (.int p1)] [(.int (3 : Int32)), (.int p1)])) _
            refine XS.icmpNo X0.here hx rfl (hb hby d1_28) rfl (teq hc28_107).2 ?_
            show Steps p.tables e below (s₁.setTop (mkF m 31 #[.val (.int p1)] [])) _
            exact k
          obtain ⟨T108, X108, e108, st108⟩ := getS X0 hx hZ hown (host := "") (hw _ (List.mem_of_getElem? (i := 20) rfl)) Via.refl e0 S_DAY_OF_MONTH (g := (mkF m 31 #[.val (.int p1)] [])) rfl (hb hby d1_31)
          refine EndsQ.go st108 ?_
          show EndsQ _ _ _ _ _ _ _ (T108.setTop (mkF m 34 #[.val (.int p1)] [(.ref a_DAY_OF_MONTH)]))
          refine EndsQ.retA X108 hx Bd.notSynchronized (w := (.ref a_DAY_OF_MONTH)) Bd.returns rfl rfl rfl (hb hby d1_34) (by decide) (by decide) ?_
          show Q1 Z p1 a_SECOND a_MINUTE a_HOUR a_DAY_OF_MONTH a_MONTH a_DAY_OF_WEEK a_DAY_OF_WEEK_FROM_1 a_YEAR h0 n0 (some (.ref a_DAY_OF_MONTH)) T108.heap _
          rw [e108]
          exact ⟨by unfold own_pick; rw [if_neg hc1_101, if_neg hc10_103, if_neg hc19_105, if_pos hc28_107], N0, rfl⟩
        · refine EndsQ.go (b := s₁.setTop (mkF m 35 #[.val (.int p1)] [])) (fun t k => ?_) ?_
          · show Steps p.tables e below (s₁.setTop (mkF m 28 #[.val (.int p1)] [(.int (3 : Int32)), (.int p1)])) _
            refine XS.icmpYes X0.here hx rfl (pc0 := 28) (pc' := 35) rfl (hb hby d1_28) rfl (feq hc28_107).2 (by decide) (by decide) ?_
            show Steps p.tables e below (s₁.setTop (mkF m 35 #[.val (.int p1)] [])) _
            exact k
          refine EndsQ.go (b := s₁.setTop (mkF m 37 #[.val (.int p1)] [(.int (4 : Int32)), (.int p1)])) (fun t k => ?_) ?_
          · show Steps p.tables e below (s₁.setTop (mkF m 35 #[.val (.int p1)] [])) _
            refine XS.iloadN X0.here hx rfl (hb hby d1_35) rfl ?_
            show Steps p.tables e below (s₁.setTop (mkF m 36 #[.val (.int p1)] [(.int p1)])) _
            refine XS.iconst X0.here hx rfl (hb hby d1_36) ?_
            show Steps p.tables e below (s₁.setTop (mkF m 37 #[.val (.int p1)] [(.int (4 : Int32)), (.int p1)])) _
            exact k
          by_cases hc37_109 : p1 = (4 : Int32)
          · refine EndsQ.go (b := s₁.setTop (mkF m 40 #[.val (.int p1)] [])) (fun t k => ?_) ?_
            · show Steps p.tables e below (s₁.setTop (mkF m 37 #[.val (.int p1)] [(.int (4 : Int32)), (.int p1)])) _
              refine XS.icmpNo X0.here hx rfl (hb hby d1_37) rfl (teq hc37_109).2 ?_
              show Steps p.tables e below (s₁.setTop (mkF m 40 #[.val (.int p1)] [])) _
              exact k
            obtain ⟨T110, X110, e110, st110⟩ := getS X0 hx hZ hown (host := "") (hw _ (List.mem_of_getElem? (i := 30) rfl)) Via.refl e0 S_MONTH (g := (mkF m 40 #[.val (.int p1)] [])) rfl (hb hby d1_40)
            refine EndsQ.go st110 ?_
            show EndsQ _ _ _ _ _ _ _ (T110.setTop (mkF m 43 #[.val (.int p1)] [(.ref a_MONTH)]))
            refine EndsQ.retA X110 hx Bd.notSynchronized (w := (.ref a_MONTH)) Bd.returns rfl rfl rfl (hb hby d1_43) (by decide) (by decide) ?_
            show Q1 Z p1 a_SECOND a_MINUTE a_HOUR a_DAY_OF_MONTH a_MONTH a_DAY_OF_WEEK a_DAY_OF_WEEK_FROM_1 a_YEAR h0 n0 (some (.ref a_MONTH)) T110.heap _
            rw [e110]
            exact ⟨by unfold own_pick; rw [if_neg hc1_101, if_neg hc10_103, if_neg hc19_105, if_neg hc28_107, if_pos hc37_109], N0, rfl⟩
          · refine EndsQ.go (b := s₁.setTop (mkF m 44 #[.val (.int p1)] [])) (fun t k => ?_) ?_
            · show Steps p.tables e below (s₁.setTop (mkF m 37 #[.val (.int p1)] [(.int (4 : Int32)), (.int p1)])) _
              refine XS.icmpYes X0.here hx rfl (pc0 := 37) (pc' := 44) rfl (hb hby d1_37) rfl (feq hc37_109).2 (by decide) (by decide) ?_
              show Steps p.tables e below (s₁.setTop (mkF m 44 #[.val (.int p1)] [])) _
              exact k
            refine EndsQ.go (b := s₁.setTop (mkF m 46 #[.val (.int p1)] [(.int (5 : Int32)), (.int p1)])) (fun t k => ?_) ?_
            · show Steps p.tables e below (s₁.setTop (mkF m 44 #[.val (.int p1)] [])) _
              refine XS.iloadN X0.here hx rfl (hb hby d1_44) rfl ?_
              show Steps p.tables e below (s₁.setTop (mkF m 45 #[.val (.int p1)] [(.int p1)])) _
              refine XS.iconst X0.here hx rfl (hb hby d1_45) ?_
              show Steps p.tables e below (s₁.setTop (mkF m 46 #[.val (.int p1)] [(.int (5 : Int32)), (.int p1)])) _
              exact k
            by_cases hc46_111 : p1 = (5 : Int32)
            · refine EndsQ.go (b := s₁.setTop (mkF m 49 #[.val (.int p1)] [])) (fun t k => ?_) ?_
              · show Steps p.tables e below (s₁.setTop (mkF m 46 #[.val (.int p1)] [(.int (5 : Int32)), (.int p1)])) _
                refine XS.icmpNo X0.here hx rfl (hb hby d1_46) rfl (teq hc46_111).2 ?_
                show Steps p.tables e below (s₁.setTop (mkF m 49 #[.val (.int p1)] [])) _
                exact k
              obtain ⟨T112, X112, e112, st112⟩ := getS X0 hx hZ hown (host := "") (hw _ (List.mem_of_getElem? (i := 32) rfl)) Via.refl e0 S_DAY_OF_WEEK (g := (mkF m 49 #[.val (.int p1)] [])) rfl (hb hby d1_49)
              refine EndsQ.go st112 ?_
              show EndsQ _ _ _ _ _ _ _ (T112.setTop (mkF m 52 #[.val (.int p1)] [(.ref a_DAY_OF_WEEK)]))
              refine EndsQ.retA X112 hx Bd.notSynchronized (w := (.ref a_DAY_OF_WEEK)) Bd.returns rfl rfl rfl (hb hby d1_52) (by decide) (by decide) ?_
              show Q1 Z p1 a_SECOND a_MINUTE a_HOUR a_DAY_OF_MONTH a_MONTH a_DAY_OF_WEEK a_DAY_OF_WEEK_FROM_1 a_YEAR h0 n0 (some (.ref a_DAY_OF_WEEK)) T112.heap _
              rw [e112]
              exact ⟨by unfold own_pick; rw [if_neg hc1_101, if_neg hc10_103, if_neg hc19_105, if_neg hc28_107, if_neg hc37_109, if_pos hc46_111], N0, rfl⟩
            · refine EndsQ.go (b := s₁.setTop (mkF m 53 #[.val (.int p1)] [])) (fun t k => ?_) ?_
              · show Steps p.tables e below (s₁.setTop (mkF m 46 #[.val (.int p1)] [(.int (5 : Int32)), (.int p1)])) _
                refine XS.icmpYes X0.here hx rfl (pc0 := 46) (pc' := 53) rfl (hb hby d1_46) rfl (feq hc46_111).2 (by decide) (by decide) ?_
                show Steps p.tables e below (s₁.setTop (mkF m 53 #[.val (.int p1)] [])) _
                exact k
              refine EndsQ.go (b := s₁.setTop (mkF m 56 #[.val (.int p1)] [(.int (6 : Int32)), (.int p1)])) (fun t k => ?_) ?_
              · show Steps p.tables e below (s₁.setTop (mkF m 53 #[.val (.int p1)] [])) _
                refine XS.iloadN X0.here hx rfl (hb hby d1_53) rfl ?_
                show Steps p.tables e below (s₁.setTop (mkF m 54 #[.val (.int p1)] [(.int p1)])) _
                refine XS.bipush X0.here hx rfl (hb hby d1_54) ?_
                show Steps p.tables e below (s₁.setTop (mkF m 56 #[.val (.int p1)] [(.int (6 : Int32)), (.int p1)])) _
                exact k
              by_cases hc56_113 : p1 = (6 : Int32)
              · refine EndsQ.go (b := s₁.setTop (mkF m 59 #[.val (.int p1)] [])) (fun t k => ?_) ?_
                · show Steps p.tables e below (s₁.setTop (mkF m 56 #[.val (.int p1)] [(.int (6 : Int32)), (.int p1)])) _
                  refine XS.icmpNo X0.here hx rfl (hb hby d1_56) rfl (teq hc56_113).2 ?_
                  show Steps p.tables e below (s₁.setTop (mkF m 59 #[.val (.int p1)] [])) _
                  exact k
                obtain ⟨T114, X114, e114, st114⟩ := getS X0 hx hZ hown (host := "") (hw _ (List.mem_of_getElem? (i := 22) rfl)) Via.refl e0 S_DAY_OF_WEEK_FROM_1 (g := (mkF m 59 #[.val (.int p1)] [])) rfl (hb hby d1_59)
                refine EndsQ.go st114 ?_
                show EndsQ _ _ _ _ _ _ _ (T114.setTop (mkF m 62 #[.val (.int p1)] [(.ref a_DAY_OF_WEEK_FROM_1)]))
                refine EndsQ.retA X114 hx Bd.notSynchronized (w := (.ref a_DAY_OF_WEEK_FROM_1)) Bd.returns rfl rfl rfl (hb hby d1_62) (by decide) (by decide) ?_
                show Q1 Z p1 a_SECOND a_MINUTE a_HOUR a_DAY_OF_MONTH a_MONTH a_DAY_OF_WEEK a_DAY_OF_WEEK_FROM_1 a_YEAR h0 n0 (some (.ref a_DAY_OF_WEEK_FROM_1)) T114.heap _
                rw [e114]
                exact ⟨by unfold own_pick; rw [if_neg hc1_101, if_neg hc10_103, if_neg hc19_105, if_neg hc28_107, if_neg hc37_109, if_neg hc46_111, if_pos hc56_113], N0, rfl⟩
              · refine EndsQ.go (b := s₁.setTop (mkF m 63 #[.val (.int p1)] [])) (fun t k => ?_) ?_
                · show Steps p.tables e below (s₁.setTop (mkF m 56 #[.val (.int p1)] [(.int (6 : Int32)), (.int p1)])) _
                  refine XS.icmpYes X0.here hx rfl (pc0 := 56) (pc' := 63) rfl (hb hby d1_56) rfl (feq hc56_113).2 (by decide) (by decide) ?_
                  show Steps p.tables e below (s₁.setTop (mkF m 63 #[.val (.int p1)] [])) _
                  exact k
                obtain ⟨T115, X115, e115, st115⟩ := getS X0 hx hZ hown (host := "") (hw _ (List.mem_of_getElem? (i := 24) rfl)) Via.refl e0 S_YEAR (g := (mkF m 63 #[.val (.int p1)] [])) rfl (hb hby d1_63)
                refine EndsQ.go st115 ?_
                show EndsQ _ _ _ _ _ _ _ (T115.setTop (mkF m 66 #[.val (.int p1)] [(.ref a_YEAR)]))
                refine EndsQ.retA X115 hx Bd.notSynchronized (w := (.ref a_YEAR)) Bd.returns rfl rfl rfl (hb hby d1_66) (by decide) (by decide) ?_
                show Q1 Z p1 a_SECOND a_MINUTE a_HOUR a_DAY_OF_MONTH a_MONTH a_DAY_OF_WEEK a_DAY_OF_WEEK_FROM_1 a_YEAR h0 n0 (some (.ref a_YEAR)) T115.heap _
                rw [e115]
                exact ⟨by unfold own_pick; rw [if_neg hc1_101, if_neg hc10_103, if_neg hc19_105, if_neg hc28_107, if_neg hc37_109, if_neg hc46_111, if_neg hc56_113], N0, rfl⟩
theorem ef_3 (m : MethodId) (x0 : Int32) : entryFrame m #[(.int x0)] 1 = mkF m 0 #[.val (.int x0)] [] := by first | (simp [entryFrame, mkF, argsToLocals, Value.category]; done) | rfl
def Q3 (Z : State) (p1 : Int32) (h0 : Heap) (n0 : Nat) (v : Option Value) (h : Heap) (L : List Loc) : Prop := v = some (.int (own_exp p1)) ∧ Fr n0 L ∧ h = h0
set_option maxRecDepth 65536 in
set_option maxHeartbeats 40000000 in
theorem rm3 (l : Launch) (Z : State) (a0 : Array Value) (hw : ∀ d ∈ tables_1, d.before a0 Z = true) (ws : List Jvm.Cond) (p1 : Int32) (h0 : Heap) (n0 : Nat) (Z0 : n0 ≤ h0.size) :
    MetFree l (⟨"com/example/sextant/sextant/FieldSizePinLaw", "expected", "(I)I"⟩ : MethodName) (head1 (Jvm.Cond.code (⟨"com/example/sextant/sextant/FieldSizePinLaw", "expected", "(I)I"⟩ : MethodName) method_3_code 1 (some .int) :: ws) ({ frames := 0, cells := 0, slots := 0, locals := 0 } : Room)) (fun a U => a = #[(.int p1)] ∧ Z.Warmed39 U.vm ∧ U.heap = h0) (fun _ _ _ _ _ => True) (fun _ U o U' => ∃ v L, o = .returned v ∧ Q3 Z p1 h0 n0 v U'.heap L ∧ FrameEnd U o U' L ({ frames := 0, cells := 0, slots := 0, locals := 0 } : Room).cells ({ frames := 0, cells := 0, slots := 0, locals := 0 } : Room).slots) := by
  refine MetFree.of_bodySF (plainFor_of_name pn_3) hisR ?_
  intro p e s m args below meth c s₁ Bd hml0 hP hK
  obtain ⟨rfl, hZ, hh⟩ := hP
  have hx := Bd.exec
  have hby := Bd.bytes
  have hml : c.maxLocals = 1 := hml0
  have hown : s.vm.findClass "com/example/sextant/sextant/FieldSizePinLaw" = some m.cls := findClass_of_methodNamed Bd.named
  have hnm := (name_of_methodNamed Bd.named Bd.method).1
  have X0 : Stand p l e ({ frames := 0, cells := 0, slots := 0, locals := 0 } : Room) s m #[(.int p1)] below meth c s₁ [] 0 0 := Stand.of_body Bd
  have e0 : s₁.heap = h0 := by rw [← hh, Bd.state]; rfl
  have N0 := Fr.nil n0
  show EndsQ p.tables e below s (fun v h L => Q3 Z p1 h0 n0 v h L) ({ frames := 0, cells := 0, slots := 0, locals := 0 } : Room).cells ({ frames := 0, cells := 0, slots := 0, locals := 0 } : Room).slots _
  refine EndsQ.go (b := s₁.setTop (mkF m 0 #[.val (.int p1)] [])) (fun t k => castTop (ef_3 m p1) k) ?_
  refine EndsQ.go (b := s₁.setTop (mkF m 1 #[.val (.int p1)] [(.int p1)])) (fun t k => ?_) ?_
  · show Steps p.tables e below (s₁.setTop (mkF m 0 #[.val (.int p1)] [])) _
    refine XS.iloadN X0.here hx rfl (hb hby d3_0) rfl ?_
    show Steps p.tables e below (s₁.setTop (mkF m 1 #[.val (.int p1)] [(.int p1)])) _
    exact k
  by_cases hc1_101 : p1 = (0 : Int32)
  · refine EndsQ.go (b := s₁.setTop (mkF m 4 #[.val (.int p1)] [])) (fun t k => ?_) ?_
    · show Steps p.tables e below (s₁.setTop (mkF m 1 #[.val (.int p1)] [(.int p1)])) _
      refine XS.ifNo X0.here hx rfl (hb hby d3_1) rfl ((if0 _ _).trans (teq hc1_101).2) ?_
      show Steps p.tables e below (s₁.setTop (mkF m 4 #[.val (.int p1)] [])) _
      exact k
    refine EndsQ.go (b := s₁.setTop (mkF m 6 #[.val (.int p1)] [(.int (60 : Int32))])) (fun t k => ?_) ?_
    · show Steps p.tables e below (s₁.setTop (mkF m 4 #[.val (.int p1)] [])) _
      refine XS.bipush X0.here hx rfl (hb hby d3_4) ?_
      show Steps p.tables e below (s₁.setTop (mkF m 6 #[.val (.int p1)] [(.int (60 : Int32))])) _
      exact k
    refine EndsQ.retI X0 hx Bd.notSynchronized Bd.returns (hb hby d3_6) (by decide) (by decide) ?_
    show Q3 Z p1 h0 n0 (some (.int (60 : Int32))) s₁.heap _
    rw [e0]
    exact ⟨by unfold own_exp; rw [if_pos hc1_101], N0, rfl⟩
  · refine EndsQ.go (b := s₁.setTop (mkF m 7 #[.val (.int p1)] [])) (fun t k => ?_) ?_
    · show Steps p.tables e below (s₁.setTop (mkF m 1 #[.val (.int p1)] [(.int p1)])) _
      refine XS.ifYes X0.here hx rfl (pc0 := 1) (pc' := 7) rfl (hb hby d3_1) rfl ((if0 _ _).trans (feq hc1_101).2) (by decide) (by decide) ?_
      show Steps p.tables e below (s₁.setTop (mkF m 7 #[.val (.int p1)] [])) _
      exact k
    refine EndsQ.go (b := s₁.setTop (mkF m 9 #[.val (.int p1)] [(.int (1 : Int32)), (.int p1)])) (fun t k => ?_) ?_
    · show Steps p.tables e below (s₁.setTop (mkF m 7 #[.val (.int p1)] [])) _
      refine XS.iloadN X0.here hx rfl (hb hby d3_7) rfl ?_
      show Steps p.tables e below (s₁.setTop (mkF m 8 #[.val (.int p1)] [(.int p1)])) _
      refine XS.iconst X0.here hx rfl (hb hby d3_8) ?_
      show Steps p.tables e below (s₁.setTop (mkF m 9 #[.val (.int p1)] [(.int (1 : Int32)), (.int p1)])) _
      exact k
    by_cases hc9_102 : p1 = (1 : Int32)
    · refine EndsQ.go (b := s₁.setTop (mkF m 12 #[.val (.int p1)] [])) (fun t k => ?_) ?_
      · show Steps p.tables e below (s₁.setTop (mkF m 9 #[.val (.int p1)] [(.int (1 : Int32)), (.int p1)])) _
        refine XS.icmpNo X0.here hx rfl (hb hby d3_9) rfl (teq hc9_102).2 ?_
        show Steps p.tables e below (s₁.setTop (mkF m 12 #[.val (.int p1)] [])) _
        exact k
      refine EndsQ.go (b := s₁.setTop (mkF m 14 #[.val (.int p1)] [(.int (60 : Int32))])) (fun t k => ?_) ?_
      · show Steps p.tables e below (s₁.setTop (mkF m 12 #[.val (.int p1)] [])) _
        refine XS.bipush X0.here hx rfl (hb hby d3_12) ?_
        show Steps p.tables e below (s₁.setTop (mkF m 14 #[.val (.int p1)] [(.int (60 : Int32))])) _
        exact k
      refine EndsQ.retI X0 hx Bd.notSynchronized Bd.returns (hb hby d3_14) (by decide) (by decide) ?_
      show Q3 Z p1 h0 n0 (some (.int (60 : Int32))) s₁.heap _
      rw [e0]
      exact ⟨by unfold own_exp; rw [if_neg hc1_101, if_pos hc9_102], N0, rfl⟩
    · refine EndsQ.go (b := s₁.setTop (mkF m 15 #[.val (.int p1)] [])) (fun t k => ?_) ?_
      · show Steps p.tables e below (s₁.setTop (mkF m 9 #[.val (.int p1)] [(.int (1 : Int32)), (.int p1)])) _
        refine XS.icmpYes X0.here hx rfl (pc0 := 9) (pc' := 15) rfl (hb hby d3_9) rfl (feq hc9_102).2 (by decide) (by decide) ?_
        show Steps p.tables e below (s₁.setTop (mkF m 15 #[.val (.int p1)] [])) _
        exact k
      refine EndsQ.go (b := s₁.setTop (mkF m 17 #[.val (.int p1)] [(.int (2 : Int32)), (.int p1)])) (fun t k => ?_) ?_
      · show Steps p.tables e below (s₁.setTop (mkF m 15 #[.val (.int p1)] [])) _
        refine XS.iloadN X0.here hx rfl (hb hby d3_15) rfl ?_
        show Steps p.tables e below (s₁.setTop (mkF m 16 #[.val (.int p1)] [(.int p1)])) _
        refine XS.iconst X0.here hx rfl (hb hby d3_16) ?_
        show Steps p.tables e below (s₁.setTop (mkF m 17 #[.val (.int p1)] [(.int (2 : Int32)), (.int p1)])) _
        exact k
      by_cases hc17_103 : p1 = (2 : Int32)
      · refine EndsQ.go (b := s₁.setTop (mkF m 20 #[.val (.int p1)] [])) (fun t k => ?_) ?_
        · show Steps p.tables e below (s₁.setTop (mkF m 17 #[.val (.int p1)] [(.int (2 : Int32)), (.int p1)])) _
          refine XS.icmpNo X0.here hx rfl (hb hby d3_17) rfl (teq hc17_103).2 ?_
          show Steps p.tables e below (s₁.setTop (mkF m 20 #[.val (.int p1)] [])) _
          exact k
        refine EndsQ.go (b := s₁.setTop (mkF m 22 #[.val (.int p1)] [(.int (24 : Int32))])) (fun t k => ?_) ?_
        · show Steps p.tables e below (s₁.setTop (mkF m 20 #[.val (.int p1)] [])) _
          refine XS.bipush X0.here hx rfl (hb hby d3_20) ?_
          show Steps p.tables e below (s₁.setTop (mkF m 22 #[.val (.int p1)] [(.int (24 : Int32))])) _
          exact k
        refine EndsQ.retI X0 hx Bd.notSynchronized Bd.returns (hb hby d3_22) (by decide) (by decide) ?_
        show Q3 Z p1 h0 n0 (some (.int (24 : Int32))) s₁.heap _
        rw [e0]
        exact ⟨by unfold own_exp; rw [if_neg hc1_101, if_neg hc9_102, if_pos hc17_103], N0, rfl⟩
      · refine EndsQ.go (b := s₁.setTop (mkF m 23 #[.val (.int p1)] [])) (fun t k => ?_) ?_
        · show Steps p.tables e below (s₁.setTop (mkF m 17 #[.val (.int p1)] [(.int (2 : Int32)), (.int p1)])) _
          refine XS.icmpYes X0.here hx rfl (pc0 := 17) (pc' := 23) rfl (hb hby d3_17) rfl (feq hc17_103).2 (by decide) (by decide) ?_
          show Steps p.tables e below (s₁.setTop (mkF m 23 #[.val (.int p1)] [])) _
          exact k
        refine EndsQ.go (b := s₁.setTop (mkF m 25 #[.val (.int p1)] [(.int (3 : Int32)), (.int p1)])) (fun t k => ?_) ?_
        · show Steps p.tables e below (s₁.setTop (mkF m 23 #[.val (.int p1)] [])) _
          refine XS.iloadN X0.here hx rfl (hb hby d3_23) rfl ?_
          show Steps p.tables e below (s₁.setTop (mkF m 24 #[.val (.int p1)] [(.int p1)])) _
          refine XS.iconst X0.here hx rfl (hb hby d3_24) ?_
          show Steps p.tables e below (s₁.setTop (mkF m 25 #[.val (.int p1)] [(.int (3 : Int32)), (.int p1)])) _
          exact k
        by_cases hc25_104 : p1 = (3 : Int32)
        · refine EndsQ.go (b := s₁.setTop (mkF m 28 #[.val (.int p1)] [])) (fun t k => ?_) ?_
          · show Steps p.tables e below (s₁.setTop (mkF m 25 #[.val (.int p1)] [(.int (3 : Int32)), (.int p1)])) _
            refine XS.icmpNo X0.here hx rfl (hb hby d3_25) rfl (teq hc25_104).2 ?_
            show Steps p.tables e below (s₁.setTop (mkF m 28 #[.val (.int p1)] [])) _
            exact k
          refine EndsQ.go (b := s₁.setTop (mkF m 30 #[.val (.int p1)] [(.int (31 : Int32))])) (fun t k => ?_) ?_
          · show Steps p.tables e below (s₁.setTop (mkF m 28 #[.val (.int p1)] [])) _
            refine XS.bipush X0.here hx rfl (hb hby d3_28) ?_
            show Steps p.tables e below (s₁.setTop (mkF m 30 #[.val (.int p1)] [(.int (31 : Int32))])) _
            exact k
          refine EndsQ.retI X0 hx Bd.notSynchronized Bd.returns (hb hby d3_30) (by decide) (by decide) ?_
          show Q3 Z p1 h0 n0 (some (.int (31 : Int32))) s₁.heap _
          rw [e0]
          exact ⟨by unfold own_exp; rw [if_neg hc1_101, if_neg hc9_102, if_neg hc17_103, if_pos hc25_104], N0, rfl⟩
        · refine EndsQ.go (b := s₁.setTop (mkF m 31 #[.val (.int p1)] [])) (fun t k => ?_) ?_
          · show Steps p.tables e below (s₁.setTop (mkF m 25 #[.val (.int p1)] [(.int (3 : Int32)), (.int p1)])) _
            refine XS.icmpYes X0.here hx rfl (pc0 := 25) (pc' := 31) rfl (hb hby d3_25) rfl (feq hc25_104).2 (by decide) (by decide) ?_
            show Steps p.tables e below (s₁.setTop (mkF m 31 #[.val (.int p1)] [])) _
            exact k
          refine EndsQ.go (b := s₁.setTop (mkF m 33 #[.val (.int p1)] [(.int (4 : Int32)), (.int p1)])) (fun t k => ?_) ?_
          · show Steps p.tables e below (s₁.setTop (mkF m 31 #[.val (.int p1)] [])) _
            refine XS.iloadN X0.here hx rfl (hb hby d3_31) rfl ?_
            show Steps p.tables e below (s₁.setTop (mkF m 32 #[.val (.int p1)] [(.int p1)])) _
            refine XS.iconst X0.here hx rfl (hb hby d3_32) ?_
            show Steps p.tables e below (s₁.setTop (mkF m 33 #[.val (.int p1)] [(.int (4 : Int32)), (.int p1)])) _
            exact k
          by_cases hc33_105 : p1 = (4 : Int32)
          · refine EndsQ.go (b := s₁.setTop (mkF m 36 #[.val (.int p1)] [])) (fun t k => ?_) ?_
            · show Steps p.tables e below (s₁.setTop (mkF m 33 #[.val (.int p1)] [(.int (4 : Int32)), (.int p1)])) _
              refine XS.icmpNo X0.here hx rfl (hb hby d3_33) rfl (teq hc33_105).2 ?_
              show Steps p.tables e below (s₁.setTop (mkF m 36 #[.val (.int p1)] [])) _
              exact k
            refine EndsQ.go (b := s₁.setTop (mkF m 38 #[.val (.int p1)] [(.int (12 : Int32))])) (fun t k => ?_) ?_
            · show Steps p.tables e below (s₁.setTop (mkF m 36 #[.val (.int p1)] [])) _
              refine XS.bipush X0.here hx rfl (hb hby d3_36) ?_
              show Steps p.tables e below (s₁.setTop (mkF m 38 #[.val (.int p1)] [(.int (12 : Int32))])) _
              exact k
            refine EndsQ.retI X0 hx Bd.notSynchronized Bd.returns (hb hby d3_38) (by decide) (by decide) ?_
            show Q3 Z p1 h0 n0 (some (.int (12 : Int32))) s₁.heap _
            rw [e0]
            exact ⟨by unfold own_exp; rw [if_neg hc1_101, if_neg hc9_102, if_neg hc17_103, if_neg hc25_104, if_pos hc33_105], N0, rfl⟩
          · refine EndsQ.go (b := s₁.setTop (mkF m 39 #[.val (.int p1)] [])) (fun t k => ?_) ?_
            · show Steps p.tables e below (s₁.setTop (mkF m 33 #[.val (.int p1)] [(.int (4 : Int32)), (.int p1)])) _
              refine XS.icmpYes X0.here hx rfl (pc0 := 33) (pc' := 39) rfl (hb hby d3_33) rfl (feq hc33_105).2 (by decide) (by decide) ?_
              show Steps p.tables e below (s₁.setTop (mkF m 39 #[.val (.int p1)] [])) _
              exact k
            refine EndsQ.go (b := s₁.setTop (mkF m 41 #[.val (.int p1)] [(.int (5 : Int32)), (.int p1)])) (fun t k => ?_) ?_
            · show Steps p.tables e below (s₁.setTop (mkF m 39 #[.val (.int p1)] [])) _
              refine XS.iloadN X0.here hx rfl (hb hby d3_39) rfl ?_
              show Steps p.tables e below (s₁.setTop (mkF m 40 #[.val (.int p1)] [(.int p1)])) _
              refine XS.iconst X0.here hx rfl (hb hby d3_40) ?_
              show Steps p.tables e below (s₁.setTop (mkF m 41 #[.val (.int p1)] [(.int (5 : Int32)), (.int p1)])) _
              exact k
            by_cases hc41_106 : p1 = (5 : Int32)
            · refine EndsQ.go (b := s₁.setTop (mkF m 44 #[.val (.int p1)] [])) (fun t k => ?_) ?_
              · show Steps p.tables e below (s₁.setTop (mkF m 41 #[.val (.int p1)] [(.int (5 : Int32)), (.int p1)])) _
                refine XS.icmpNo X0.here hx rfl (hb hby d3_41) rfl (teq hc41_106).2 ?_
                show Steps p.tables e below (s₁.setTop (mkF m 44 #[.val (.int p1)] [])) _
                exact k
              refine EndsQ.go (b := s₁.setTop (mkF m 46 #[.val (.int p1)] [(.int (8 : Int32))])) (fun t k => ?_) ?_
              · show Steps p.tables e below (s₁.setTop (mkF m 44 #[.val (.int p1)] [])) _
                refine XS.bipush X0.here hx rfl (hb hby d3_44) ?_
                show Steps p.tables e below (s₁.setTop (mkF m 46 #[.val (.int p1)] [(.int (8 : Int32))])) _
                exact k
              refine EndsQ.retI X0 hx Bd.notSynchronized Bd.returns (hb hby d3_46) (by decide) (by decide) ?_
              show Q3 Z p1 h0 n0 (some (.int (8 : Int32))) s₁.heap _
              rw [e0]
              exact ⟨by unfold own_exp; rw [if_neg hc1_101, if_neg hc9_102, if_neg hc17_103, if_neg hc25_104, if_neg hc33_105, if_pos hc41_106], N0, rfl⟩
            · refine EndsQ.go (b := s₁.setTop (mkF m 47 #[.val (.int p1)] [])) (fun t k => ?_) ?_
              · show Steps p.tables e below (s₁.setTop (mkF m 41 #[.val (.int p1)] [(.int (5 : Int32)), (.int p1)])) _
                refine XS.icmpYes X0.here hx rfl (pc0 := 41) (pc' := 47) rfl (hb hby d3_41) rfl (feq hc41_106).2 (by decide) (by decide) ?_
                show Steps p.tables e below (s₁.setTop (mkF m 47 #[.val (.int p1)] [])) _
                exact k
              refine EndsQ.go (b := s₁.setTop (mkF m 50 #[.val (.int p1)] [(.int (6 : Int32)), (.int p1)])) (fun t k => ?_) ?_
              · show Steps p.tables e below (s₁.setTop (mkF m 47 #[.val (.int p1)] [])) _
                refine XS.iloadN X0.here hx rfl (hb hby d3_47) rfl ?_
                show Steps p.tables e below (s₁.setTop (mkF m 48 #[.val (.int p1)] [(.int p1)])) _
                refine XS.bipush X0.here hx rfl (hb hby d3_48) ?_
                show Steps p.tables e below (s₁.setTop (mkF m 50 #[.val (.int p1)] [(.int (6 : Int32)), (.int p1)])) _
                exact k
              by_cases hc50_107 : p1 = (6 : Int32)
              · refine EndsQ.go (b := s₁.setTop (mkF m 53 #[.val (.int p1)] [])) (fun t k => ?_) ?_
                · show Steps p.tables e below (s₁.setTop (mkF m 50 #[.val (.int p1)] [(.int (6 : Int32)), (.int p1)])) _
                  refine XS.icmpNo X0.here hx rfl (hb hby d3_50) rfl (teq hc50_107).2 ?_
                  show Steps p.tables e below (s₁.setTop (mkF m 53 #[.val (.int p1)] [])) _
                  exact k
                refine EndsQ.go (b := s₁.setTop (mkF m 55 #[.val (.int p1)] [(.int (7 : Int32))])) (fun t k => ?_) ?_
                · show Steps p.tables e below (s₁.setTop (mkF m 53 #[.val (.int p1)] [])) _
                  refine XS.bipush X0.here hx rfl (hb hby d3_53) ?_
                  show Steps p.tables e below (s₁.setTop (mkF m 55 #[.val (.int p1)] [(.int (7 : Int32))])) _
                  exact k
                refine EndsQ.retI X0 hx Bd.notSynchronized Bd.returns (hb hby d3_55) (by decide) (by decide) ?_
                show Q3 Z p1 h0 n0 (some (.int (7 : Int32))) s₁.heap _
                rw [e0]
                exact ⟨by unfold own_exp; rw [if_neg hc1_101, if_neg hc9_102, if_neg hc17_103, if_neg hc25_104, if_neg hc33_105, if_neg hc41_106, if_pos hc50_107], N0, rfl⟩
              · refine EndsQ.go (b := s₁.setTop (mkF m 56 #[.val (.int p1)] [])) (fun t k => ?_) ?_
                · show Steps p.tables e below (s₁.setTop (mkF m 50 #[.val (.int p1)] [(.int (6 : Int32)), (.int p1)])) _
                  refine XS.icmpYes X0.here hx rfl (pc0 := 50) (pc' := 56) rfl (hb hby d3_50) rfl (feq hc50_107).2 (by decide) (by decide) ?_
                  show Steps p.tables e below (s₁.setTop (mkF m 56 #[.val (.int p1)] [])) _
                  exact k
                refine EndsQ.go (b := s₁.setTop (mkF m 59 #[.val (.int p1)] [(.int (230 : Int32))])) (fun t k => ?_) ?_
                · show Steps p.tables e below (s₁.setTop (mkF m 56 #[.val (.int p1)] [])) _
                  refine XS.sipush X0.here hx rfl (hb hby d3_56) ?_
                  show Steps p.tables e below (s₁.setTop (mkF m 59 #[.val (.int p1)] [(.int (230 : Int32))])) _
                  exact k
                refine EndsQ.retI X0 hx Bd.notSynchronized Bd.returns (hb hby d3_59) (by decide) (by decide) ?_
                show Q3 Z p1 h0 n0 (some (.int (230 : Int32))) s₁.heap _
                rw [e0]
                exact ⟨by unfold own_exp; rw [if_neg hc1_101, if_neg hc9_102, if_neg hc17_103, if_neg hc25_104, if_neg hc33_105, if_neg hc41_106, if_neg hc50_107], N0, rfl⟩
theorem ef_2 (m : MethodId) (x0 : Addr) : entryFrame m #[(.ref x0)] 1 = mkF m 0 #[.val (.ref x0)] [] := by first | (simp [entryFrame, mkF, argsToLocals, Value.category]; done) | rfl
def Q2 (Z : State) (a1 : Addr) (mx : Int32) (mn : Int32) (h0 : Heap) (n0 : Nat) (v : Option Value) (h : Heap) (L : List Loc) : Prop := v = some (.int ((mx - mn) + (1 : Int32))) ∧ Fr n0 L ∧ h = h0
set_option maxRecDepth 65536 in
set_option maxHeartbeats 40000000 in
theorem rm2 (l : Launch) (Z : State) (a0 : Array Value) (hw : ∀ d ∈ tables_1, d.before a0 Z = true) (ws : List Jvm.Cond) (a1 : Addr) (mx : Int32) (mn : Int32) (h0 : Heap) (n0 : Nat) (Z0 : n0 ≤ h0.size) (F_max : Fld Z h0 a1 "com/example/sextant/sextant/Field" "max" "I" (.int mx)) (F_min : Fld Z h0 a1 "com/example/sextant/sextant/Field" "min" "I" (.int mn)) :
    MetFree l (⟨"com/example/sextant/sextant/Field", "size", "()I"⟩ : MethodName) (head1 (Jvm.Cond.code (⟨"com/example/sextant/sextant/Field", "size", "()I"⟩ : MethodName) prog_7_method_7_code 1 (some .int) :: ws) ({ frames := 0, cells := 0, slots := 0, locals := 0 } : Room)) (fun a U => a = #[(.ref a1)] ∧ Z.Warmed39 U.vm ∧ U.heap = h0) (fun _ _ _ _ _ => True) (fun _ U o U' => ∃ v L, o = .returned v ∧ Q2 Z a1 mx mn h0 n0 v U'.heap L ∧ FrameEnd U o U' L ({ frames := 0, cells := 0, slots := 0, locals := 0 } : Room).cells ({ frames := 0, cells := 0, slots := 0, locals := 0 } : Room).slots) := by
  refine MetFree.of_bodySF (plainFor_of_name pn_2) hisR ?_
  intro p e s m args below meth c s₁ Bd hml0 hP hK
  obtain ⟨rfl, hZ, hh⟩ := hP
  have hx := Bd.exec
  have hby := Bd.bytes
  have hml : c.maxLocals = 1 := hml0
  have hown : s.vm.findClass "com/example/sextant/sextant/Field" = some m.cls := findClass_of_methodNamed Bd.named
  have hnm := (name_of_methodNamed Bd.named Bd.method).1
  have X0 : Stand p l e ({ frames := 0, cells := 0, slots := 0, locals := 0 } : Room) s m #[(.ref a1)] below meth c s₁ [] 0 0 := Stand.of_body Bd
  have e0 : s₁.heap = h0 := by rw [← hh, Bd.state]; rfl
  have N0 := Fr.nil n0
  show EndsQ p.tables e below s (fun v h L => Q2 Z a1 mx mn h0 n0 v h L) ({ frames := 0, cells := 0, slots := 0, locals := 0 } : Room).cells ({ frames := 0, cells := 0, slots := 0, locals := 0 } : Room).slots _
  refine EndsQ.go (b := s₁.setTop (mkF m 0 #[.val (.ref a1)] [])) (fun t k => castTop (ef_2 m a1) k) ?_
  refine EndsQ.go (b := s₁.setTop (mkF m 1 #[.val (.ref a1)] [(.ref a1)])) (fun t k => ?_) ?_
  · show Steps p.tables e below (s₁.setTop (mkF m 0 #[.val (.ref a1)] [])) _
    refine XS.aloadN X0.here hx rfl (hb hby d2_0) rfl rfl ?_
    show Steps p.tables e below (s₁.setTop (mkF m 1 #[.val (.ref a1)] [(.ref a1)])) _
    exact k
  obtain ⟨T101, X101, e101, st101⟩ := getF X0 hx hZ hown (host := "") (Or.inl (hw _ (List.mem_of_getElem? (i := 13) rfl))) Via.refl e0 F_max (g := (mkF m 1 #[.val (.ref a1)] [(.ref a1)])) rfl rfl (hb hby d2_1)
  refine EndsQ.go st101 ?_
  show EndsQ _ _ _ _ _ _ _ (T101.setTop (mkF m 4 #[.val (.ref a1)] [(.int mx)]))
  refine EndsQ.go (b := T101.setTop (mkF m 5 #[.val (.ref a1)] [(.ref a1), (.int mx)])) (fun t k => ?_) ?_
  · show Steps p.tables e below (T101.setTop (mkF m 4 #[.val (.ref a1)] [(.int mx)])) _
    refine XS.aloadN X101.here hx rfl (hb hby d2_4) rfl rfl ?_
    show Steps p.tables e below (T101.setTop (mkF m 5 #[.val (.ref a1)] [(.ref a1), (.int mx)])) _
    exact k
  obtain ⟨T102, X102, e102, st102⟩ := getF X101 hx hZ hown (host := "") (Or.inl (hw _ (List.mem_of_getElem? (i := 15) rfl))) Via.refl e101 F_min (g := (mkF m 5 #[.val (.ref a1)] [(.ref a1), (.int mx)])) rfl rfl (hb hby d2_5)
  refine EndsQ.go st102 ?_
  show EndsQ _ _ _ _ _ _ _ (T102.setTop (mkF m 8 #[.val (.ref a1)] [(.int mn), (.int mx)]))
  refine EndsQ.go (b := T102.setTop (mkF m 11 #[.val (.ref a1)] [(.int ((mx - mn) + (1 : Int32)))])) (fun t k => ?_) ?_
  · show Steps p.tables e below (T102.setTop (mkF m 8 #[.val (.ref a1)] [(.int mn), (.int mx)])) _
    refine XS.isub X102.here hx rfl (hb hby d2_8) rfl ?_
    show Steps p.tables e below (T102.setTop (mkF m 9 #[.val (.ref a1)] [(.int (mx - mn))])) _
    refine XS.iconst X102.here hx rfl (hb hby d2_9) ?_
    show Steps p.tables e below (T102.setTop (mkF m 10 #[.val (.ref a1)] [(.int (1 : Int32)), (.int (mx - mn))])) _
    refine XS.iadd X102.here hx rfl (hb hby d2_10) rfl ?_
    show Steps p.tables e below (T102.setTop (mkF m 11 #[.val (.ref a1)] [(.int ((mx - mn) + (1 : Int32)))])) _
    exact k
  refine EndsQ.retI X102 hx Bd.notSynchronized Bd.returns (hb hby d2_11) (by decide) (by decide) ?_
  show Q2 Z a1 mx mn h0 n0 (some (.int ((mx - mn) + (1 : Int32)))) T102.heap _
  rw [e102]
  exact ⟨rfl, N0, rfl⟩
theorem ef_0 (m : MethodId) (x0 : Int32) : entryFrame m #[(.int x0)] maxLocals = mkF m 0 #[.val (.int x0), .unset, .unset] [] := by first | (simp [entryFrame, mkF, argsToLocals, Value.category, maxLocals]; done) | rfl
def Q0 (Z : State) (p1 : Int32) (a_SECOND : Addr) (a_MINUTE : Addr) (a_HOUR : Addr) (a_DAY_OF_MONTH : Addr) (a_MONTH : Addr) (a_DAY_OF_WEEK : Addr) (a_DAY_OF_WEEK_FROM_1 : Addr) (a_YEAR : Addr) (h0 : Heap) (n0 : Nat) (v : Option Value) (h : Heap) (L : List Loc) : Prop := v = some (.int 1) ∧ Fr n0 L
set_option maxRecDepth 65536 in
set_option maxHeartbeats 40000000 in
theorem rm0 (l : Launch) (Z : State) (a0 : Array Value) (hw : ∀ d ∈ tables_1, d.before a0 Z = true) (ws : List Jvm.Cond) (p1 : Int32) (a_SECOND : Addr) (a_MINUTE : Addr) (a_HOUR : Addr) (a_DAY_OF_MONTH : Addr) (a_MONTH : Addr) (a_DAY_OF_WEEK : Addr) (a_DAY_OF_WEEK_FROM_1 : Addr) (a_YEAR : Addr) (h0 : Heap) (n0 : Nat) (Z0 : n0 ≤ h0.size) (S_SECOND : Sta Z h0 "com/example/sextant/sextant/Field" "SECOND" "Lcom/example/sextant/sextant/Field;" (.ref a_SECOND)) (S_MINUTE : Sta Z h0 "com/example/sextant/sextant/Field" "MINUTE" "Lcom/example/sextant/sextant/Field;" (.ref a_MINUTE)) (S_HOUR : Sta Z h0 "com/example/sextant/sextant/Field" "HOUR" "Lcom/example/sextant/sextant/Field;" (.ref a_HOUR)) (S_DAY_OF_MONTH : Sta Z h0 "com/example/sextant/sextant/Field" "DAY_OF_MONTH" "Lcom/example/sextant/sextant/Field;" (.ref a_DAY_OF_MONTH)) (S_MONTH : Sta Z h0 "com/example/sextant/sextant/Field" "MONTH" "Lcom/example/sextant/sextant/Field;" (.ref a_MONTH)) (S_DAY_OF_WEEK : Sta Z h0 "com/example/sextant/sextant/Field" "DAY_OF_WEEK" "Lcom/example/sextant/sextant/Field;" (.ref a_DAY_OF_WEEK)) (S_DAY_OF_WEEK_FROM_1 : Sta Z h0 "com/example/sextant/sextant/Field" "DAY_OF_WEEK_FROM_1" "Lcom/example/sextant/sextant/Field;" (.ref a_DAY_OF_WEEK_FROM_1)) (S_YEAR : Sta Z h0 "com/example/sextant/sextant/Field" "YEAR" "Lcom/example/sextant/sextant/Field;" (.ref a_YEAR)) (E_SECOND : Exa Z h0 a_SECOND "com/example/sextant/sextant/Field") (F_SECOND_max : Fld Z h0 a_SECOND "com/example/sextant/sextant/Field" "max" "I" (.int (59 : Int32))) (F_SECOND_min : Fld Z h0 a_SECOND "com/example/sextant/sextant/Field" "min" "I" (.int (0 : Int32))) (E_MINUTE : Exa Z h0 a_MINUTE "com/example/sextant/sextant/Field") (F_MINUTE_max : Fld Z h0 a_MINUTE "com/example/sextant/sextant/Field" "max" "I" (.int (59 : Int32))) (F_MINUTE_min : Fld Z h0 a_MINUTE "com/example/sextant/sextant/Field" "min" "I" (.int (0 : Int32))) (E_HOUR : Exa Z h0 a_HOUR "com/example/sextant/sextant/Field") (F_HOUR_max : Fld Z h0 a_HOUR "com/example/sextant/sextant/Field" "max" "I" (.int (23 : Int32))) (F_HOUR_min : Fld Z h0 a_HOUR "com/example/sextant/sextant/Field" "min" "I" (.int (0 : Int32))) (E_DAY_OF_MONTH : Exa Z h0 a_DAY_OF_MONTH "com/example/sextant/sextant/Field") (F_DAY_OF_MONTH_max : Fld Z h0 a_DAY_OF_MONTH "com/example/sextant/sextant/Field" "max" "I" (.int (31 : Int32))) (F_DAY_OF_MONTH_min : Fld Z h0 a_DAY_OF_MONTH "com/example/sextant/sextant/Field" "min" "I" (.int (1 : Int32))) (E_MONTH : Exa Z h0 a_MONTH "com/example/sextant/sextant/Field") (F_MONTH_max : Fld Z h0 a_MONTH "com/example/sextant/sextant/Field" "max" "I" (.int (12 : Int32))) (F_MONTH_min : Fld Z h0 a_MONTH "com/example/sextant/sextant/Field" "min" "I" (.int (1 : Int32))) (E_DAY_OF_WEEK : Exa Z h0 a_DAY_OF_WEEK "com/example/sextant/sextant/Field") (F_DAY_OF_WEEK_max : Fld Z h0 a_DAY_OF_WEEK "com/example/sextant/sextant/Field" "max" "I" (.int (7 : Int32))) (F_DAY_OF_WEEK_min : Fld Z h0 a_DAY_OF_WEEK "com/example/sextant/sextant/Field" "min" "I" (.int (0 : Int32))) (E_DAY_OF_WEEK_FROM_1 : Exa Z h0 a_DAY_OF_WEEK_FROM_1 "com/example/sextant/sextant/Field") (F_DAY_OF_WEEK_FROM_1_max : Fld Z h0 a_DAY_OF_WEEK_FROM_1 "com/example/sextant/sextant/Field" "max" "I" (.int (7 : Int32))) (F_DAY_OF_WEEK_FROM_1_min : Fld Z h0 a_DAY_OF_WEEK_FROM_1 "com/example/sextant/sextant/Field" "min" "I" (.int (1 : Int32))) (E_YEAR : Exa Z h0 a_YEAR "com/example/sextant/sextant/Field") (F_YEAR_max : Fld Z h0 a_YEAR "com/example/sextant/sextant/Field" "max" "I" (.int (2199 : Int32))) (F_YEAR_min : Fld Z h0 a_YEAR "com/example/sextant/sextant/Field" "min" "I" (.int (1970 : Int32))) :
    MetFree l x (head1 (Jvm.Cond.code x code maxLocals ret :: ws) room_1) (fun a U => a = #[(.int p1)] ∧ Z.Warmed39 U.vm ∧ U.heap = h0) (fun _ _ _ _ _ => True) (fun _ U o U' => ∃ v L, o = .returned v ∧ Q0 Z p1 a_SECOND a_MINUTE a_HOUR a_DAY_OF_MONTH a_MONTH a_DAY_OF_WEEK a_DAY_OF_WEEK_FROM_1 a_YEAR h0 n0 v U'.heap L ∧ FrameEnd U o U' L 0 0) := by
  refine MetFree.of_bodySF (plainFor_of_name pn_0) hisR ?_
  intro p e s m args below meth c s₁ Bd hml0 hP hK
  obtain ⟨rfl, hZ, hh⟩ := hP
  have hx := Bd.exec
  have hby := Bd.bytes
  have hml : c.maxLocals = 3 := hml0
  have hown : s.vm.findClass "com/example/sextant/sextant/FieldSizePinLaw" = some m.cls := findClass_of_methodNamed Bd.named
  have hnm := (name_of_methodNamed Bd.named Bd.method).1
  have X0 : Stand p l e room_1 s m #[(.int p1)] below meth c s₁ [] 0 0 := Stand.of_body Bd
  have e0 : s₁.heap = h0 := by rw [← hh, Bd.state]; rfl
  have N0 := Fr.nil n0
  show EndsQ p.tables e below s (fun v h L => Q0 Z p1 a_SECOND a_MINUTE a_HOUR a_DAY_OF_MONTH a_MONTH a_DAY_OF_WEEK a_DAY_OF_WEEK_FROM_1 a_YEAR h0 n0 v h L) 0 0 _
  refine EndsQ.go (b := s₁.setTop (mkF m 0 #[.val (.int p1), .unset, .unset] [])) (fun t k => castTop (ef_0 m p1) k) ?_
  refine EndsQ.go (b := s₁.setTop (mkF m 8 #[.val (.int p1), .val (.int ((p1 &&& (2147483647 : Int32)) % (8 : Int32))), .unset] [])) (fun t k => ?_) ?_
  · show Steps p.tables e below (s₁.setTop (mkF m 0 #[.val (.int p1), .unset, .unset] [])) _
    refine XS.iloadN X0.here hx rfl (hb hby at_0) rfl ?_
    show Steps p.tables e below (s₁.setTop (mkF m 1 #[.val (.int p1), .unset, .unset] [(.int p1)])) _
    refine X0.ldcInt hx hown (mvT hZ (hw _ (List.mem_of_getElem? (i := 0) rfl))) (g := (mkF m 1 #[.val (.int p1), .unset, .unset] [(.int p1)])) rfl (hb hby at_1) _ ?_
    show Steps p.tables e below (s₁.setTop (mkF m 3 #[.val (.int p1), .unset, .unset] [(.int (2147483647 : Int32)), (.int p1)])) _
    refine XS.iand X0.here hx rfl (hb hby at_3) rfl ?_
    show Steps p.tables e below (s₁.setTop (mkF m 4 #[.val (.int p1), .unset, .unset] [(.int (p1 &&& (2147483647 : Int32)))])) _
    refine XS.bipush X0.here hx rfl (hb hby at_4) ?_
    show Steps p.tables e below (s₁.setTop (mkF m 6 #[.val (.int p1), .unset, .unset] [(.int (8 : Int32)), (.int (p1 &&& (2147483647 : Int32)))])) _
    refine iremM X0 hx rfl (hb hby at_6) rfl (by decide) ?_
    show Steps p.tables e below (s₁.setTop (mkF m 7 #[.val (.int p1), .unset, .unset] [(.int ((p1 &&& (2147483647 : Int32)) % (8 : Int32)))])) _
    refine XS.istoreN X0.here hx rfl (hb hby at_7) rfl (l' := #[.val (.int p1), .val (.int ((p1 &&& (2147483647 : Int32)) % (8 : Int32))), .unset]) rfl ?_
    show Steps p.tables e below (s₁.setTop (mkF m 8 #[.val (.int p1), .val (.int ((p1 &&& (2147483647 : Int32)) % (8 : Int32))), .unset] [])) _
    exact k
  generalize hv_kk : ((p1 &&& (2147483647 : Int32)) % (8 : Int32)) = kk
  show EndsQ _ _ _ _ _ _ _ (s₁.setTop (mkF m 8 #[.val (.int p1), .val (.int kk), .unset] []))
  have hk8 := own_k8 p1
  rw [hv_kk] at hk8
  rcases hk8 with hk0 | hk1 | hk2 | hk3 | hk4 | hk5 | hk6 | hk7
  · subst hk0
    show EndsQ _ _ _ _ _ _ _ (s₁.setTop (mkF m 8 #[.val (.int p1), .val (.int (0 : Int32)), .unset] []))
    refine EndsQ.go (b := s₁.setTop (mkF m 9 #[.val (.int p1), .val (.int (0 : Int32)), .unset] [(.int (0 : Int32))])) (fun t k => ?_) ?_
    · show Steps p.tables e below (s₁.setTop (mkF m 8 #[.val (.int p1), .val (.int (0 : Int32)), .unset] [])) _
      refine XS.iloadN X0.here hx rfl (hb hby at_8) rfl ?_
      show Steps p.tables e below (s₁.setTop (mkF m 9 #[.val (.int p1), .val (.int (0 : Int32)), .unset] [(.int (0 : Int32))])) _
      exact k
    obtain ⟨_, _, ⟨T101, L101, kk101, nn101⟩, -, X101, ⟨Lc101, hQ101, l101, y101, z101⟩, st101⟩ := Jvm.LawKit.callS X0 hx (y := (⟨"com/example/sextant/sextant/FieldSizePinLaw", "pick", "(I)Lcom/example/sextant/sextant/Field;"⟩ : MethodName)) hown (mvT hZ (hw _ (List.mem_of_getElem? (i := 1) rfl))) (mvT hZ (hw _ (List.mem_of_getElem? (i := 2) rfl))) (mvT hZ (hw _ (List.mem_of_getElem? (i := 3) rfl))) (mvT hZ (hw _ (List.mem_of_getElem? (i := 4) rfl))) (by decide) (backOf (W := 0) (rm1 l Z a0 hw [] (0 : Int32) a_SECOND a_MINUTE a_HOUR a_DAY_OF_MONTH a_MONTH a_DAY_OF_WEEK a_DAY_OF_WEEK_FROM_1 a_YEAR h0 n0 Z0 S_SECOND S_MINUTE S_HOUR S_DAY_OF_MONTH S_MONTH S_DAY_OF_WEEK S_DAY_OF_WEEK_FROM_1 S_YEAR) hZ (hw _ (List.mem_of_getElem? (i := 4) rfl)) (hw _ (List.mem_of_getElem? (i := 3) rfl)) (by decide) (by decide)) (g := (mkF m 9 #[.val (.int p1), .val (.int (0 : Int32)), .unset] [(.int (0 : Int32))])) rfl (by rw [hml]; rfl) (argsL := [(.int (0 : Int32))]) (rest := []) (lenOf pd_0 rfl) rfl (by show 2 * 0 + _ ≤ _; exact Nat.le_of_eq rfl) (hb hby at_9) (fun _ _ => ⟨rfl, e0, (by decide : 0 + 0 ≤ _), (by decide : 0 + 0 ≤ _)⟩)
    dsimp only [Pt.U, Pt.locs, Pt.cells, Pt.slots] at X101 l101 y101 z101 st101 hQ101
    subst l101 y101 z101
    obtain ⟨rfl, Nq101, eq101⟩ := hQ101
    have N101 := Fr.app N0 Nq101
    refine EndsQ.go st101 ?_
    show EndsQ _ _ _ _ _ _ _ (T101.setTop (mkF m 12 #[.val (.int p1), .val (.int (0 : Int32)), .unset] [(.ref (own_pick (0 : Int32) a_SECOND a_MINUTE a_HOUR a_DAY_OF_MONTH a_MONTH a_DAY_OF_WEEK a_DAY_OF_WEEK_FROM_1 a_YEAR))]))
    rw [(rfl : (own_pick (0 : Int32) a_SECOND a_MINUTE a_HOUR a_DAY_OF_MONTH a_MONTH a_DAY_OF_WEEK a_DAY_OF_WEEK_FROM_1 a_YEAR) = a_SECOND)]
    show EndsQ _ _ _ _ _ _ _ (T101.setTop (mkF m 12 #[.val (.int p1), .val (.int (0 : Int32)), .unset] [(.ref a_SECOND)]))
    refine EndsQ.go (b := T101.setTop (mkF m 14 #[.val (.int p1), .val (.int (0 : Int32)), .val (.ref a_SECOND)] [(.ref a_SECOND)])) (fun t k => ?_) ?_
    · show Steps p.tables e below (T101.setTop (mkF m 12 #[.val (.int p1), .val (.int (0 : Int32)), .unset] [(.ref a_SECOND)])) _
      refine XS.astoreN X101.here hx rfl (hb hby at_12) rfl rfl (l' := #[.val (.int p1), .val (.int (0 : Int32)), .val (.ref a_SECOND)]) rfl ?_
      show Steps p.tables e below (T101.setTop (mkF m 13 #[.val (.int p1), .val (.int (0 : Int32)), .val (.ref a_SECOND)] [])) _
      refine XS.aloadN X101.here hx rfl (hb hby at_13) rfl rfl ?_
      show Steps p.tables e below (T101.setTop (mkF m 14 #[.val (.int p1), .val (.int (0 : Int32)), .val (.ref a_SECOND)] [(.ref a_SECOND)])) _
      exact k
    obtain ⟨cq102, kq102, qa102, qb102, qc102⟩ := isOf hZ eq101 E_SECOND
    obtain ⟨_, _, ⟨T102, L102, kk102, nn102⟩, -, X102, ⟨Lc102, hQ102, l102, y102, z102⟩, st102⟩ := X101.virtualBack hx (y := (⟨"com/example/sextant/sextant/Field", "size", "()I"⟩ : MethodName)) (z := (⟨"com/example/sextant/sextant/Field", "size", "()I"⟩ : MethodName)) hown (mvT hZ (hw _ (List.mem_of_getElem? (i := 8) rfl))) (mvT hZ (hw _ (List.mem_of_getElem? (i := 9) rfl))) (notFace_of_selects (args := #[]) (mvT hZ (hw _ (List.mem_of_getElem? (i := 11) rfl)))) (mvT hZ (hw _ (List.mem_of_getElem? (i := 11) rfl))) (mvT hZ (hw _ (List.mem_of_getElem? (i := 10) rfl))) (by decide) (backOf (W := 0) (rm2 l Z a0 hw [] a_SECOND (59 : Int32) (0 : Int32) h0 n0 Z0 F_SECOND_max F_SECOND_min) hZ (hw _ (List.mem_of_getElem? (i := 12) rfl)) (hw _ (List.mem_of_getElem? (i := 6) rfl)) (by decide) (by decide)) qa102 qc102 (g := (mkF m 14 #[.val (.int p1), .val (.int (0 : Int32)), .val (.ref a_SECOND)] [(.ref a_SECOND)])) rfl (by rw [hml]; rfl) (Steps.refl _) (argsL := []) (rest := []) (lenOf pd_1 rfl) rfl (by show 2 * 0 + _ ≤ _; exact Nat.le_of_eq rfl) (hb hby at_14) (fun _ _ => ⟨rfl, eq101, (by decide : 0 + 0 ≤ _), (by decide : 0 + 0 ≤ _)⟩)
    dsimp only [Pt.U, Pt.locs, Pt.cells, Pt.slots] at X102 l102 y102 z102 st102 hQ102
    subst l102 y102 z102
    obtain ⟨rfl, Nq102, eq102⟩ := hQ102
    have N102 := Fr.app N101 Nq102
    refine EndsQ.go (fun t k => st102.trans k) ?_
    show EndsQ _ _ _ _ _ _ _ (T102.setTop (mkF m 17 #[.val (.int p1), .val (.int (0 : Int32)), .val (.ref a_SECOND)] [(.int (((59 : Int32) - (0 : Int32)) + (1 : Int32)))]))
    refine EndsQ.go (b := T102.setTop (mkF m 18 #[.val (.int p1), .val (.int (0 : Int32)), .val (.ref a_SECOND)] [(.int (0 : Int32)), (.int (((59 : Int32) - (0 : Int32)) + (1 : Int32)))])) (fun t k => ?_) ?_
    · show Steps p.tables e below (T102.setTop (mkF m 17 #[.val (.int p1), .val (.int (0 : Int32)), .val (.ref a_SECOND)] [(.int (((59 : Int32) - (0 : Int32)) + (1 : Int32)))])) _
      refine XS.iloadN X102.here hx rfl (hb hby at_17) rfl ?_
      show Steps p.tables e below (T102.setTop (mkF m 18 #[.val (.int p1), .val (.int (0 : Int32)), .val (.ref a_SECOND)] [(.int (0 : Int32)), (.int (((59 : Int32) - (0 : Int32)) + (1 : Int32)))])) _
      exact k
    obtain ⟨_, _, ⟨T103, L103, kk103, nn103⟩, -, X103, ⟨Lc103, hQ103, l103, y103, z103⟩, st103⟩ := Jvm.LawKit.callS X102 hx (y := (⟨"com/example/sextant/sextant/FieldSizePinLaw", "expected", "(I)I"⟩ : MethodName)) hown (mvT hZ (hw _ (List.mem_of_getElem? (i := 17) rfl))) (mvT hZ (hw _ (List.mem_of_getElem? (i := 18) rfl))) (mvT hZ (hw _ (List.mem_of_getElem? (i := 3) rfl))) (mvT hZ (hw _ (List.mem_of_getElem? (i := 19) rfl))) (by decide) (backOf (W := 1) (rm3 l Z a0 hw [] (0 : Int32) h0 n0 Z0 ) hZ (hw _ (List.mem_of_getElem? (i := 19) rfl)) (hw _ (List.mem_of_getElem? (i := 3) rfl)) (by decide) (by decide)) (g := (mkF m 18 #[.val (.int p1), .val (.int (0 : Int32)), .val (.ref a_SECOND)] [(.int (0 : Int32)), (.int (((59 : Int32) - (0 : Int32)) + (1 : Int32)))])) rfl (by rw [hml]; rfl) (argsL := [(.int (0 : Int32))]) (rest := [(.int (((59 : Int32) - (0 : Int32)) + (1 : Int32)))]) (lenOf pd_2 rfl) rfl (by show 2 * 0 + _ ≤ _; exact Nat.le_of_eq rfl) (hb hby at_18) (fun _ _ => ⟨rfl, eq102, (by decide : 0 + 0 ≤ _), (by decide : 0 + 0 ≤ _)⟩)
    dsimp only [Pt.U, Pt.locs, Pt.cells, Pt.slots] at X103 l103 y103 z103 st103 hQ103
    subst l103 y103 z103
    obtain ⟨rfl, Nq103, eq103⟩ := hQ103
    have N103 := Fr.app N102 Nq103
    refine EndsQ.go st103 ?_
    show EndsQ _ _ _ _ _ _ _ (T103.setTop (mkF m 21 #[.val (.int p1), .val (.int (0 : Int32)), .val (.ref a_SECOND)] [(.int (own_exp (0 : Int32))), (.int (((59 : Int32) - (0 : Int32)) + (1 : Int32)))]))
    refine EndsQ.go (b := T103.setTop (mkF m 29 #[.val (.int p1), .val (.int (0 : Int32)), .val (.ref a_SECOND)] [(.int (1 : Int32))])) (fun t k => ?_) ?_
    · show Steps p.tables e below (T103.setTop (mkF m 21 #[.val (.int p1), .val (.int (0 : Int32)), .val (.ref a_SECOND)] [(.int (own_exp (0 : Int32))), (.int (((59 : Int32) - (0 : Int32)) + (1 : Int32)))])) _
      refine XS.icmpNo X103.here hx rfl (hb hby at_21) rfl (teq (by decide)).2 ?_
      show Steps p.tables e below (T103.setTop (mkF m 24 #[.val (.int p1), .val (.int (0 : Int32)), .val (.ref a_SECOND)] [])) _
      refine XS.iconst X103.here hx rfl (hb hby at_24) ?_
      show Steps p.tables e below (T103.setTop (mkF m 25 #[.val (.int p1), .val (.int (0 : Int32)), .val (.ref a_SECOND)] [(.int (1 : Int32))])) _
      refine XS.goto X103.here hx rfl (pc0 := 25) (pc' := 29) rfl (hb hby at_25) (by decide) (by decide) ?_
      show Steps p.tables e below (T103.setTop (mkF m 29 #[.val (.int p1), .val (.int (0 : Int32)), .val (.ref a_SECOND)] [(.int (1 : Int32))])) _
      exact k
    refine EndsQ.retN X103 hx Bd.notSynchronized (t := .boolean) Bd.returns (by simp) (hb hby at_29) (by decide) (by decide) ?_
    show Q0 Z p1 a_SECOND a_MINUTE a_HOUR a_DAY_OF_MONTH a_MONTH a_DAY_OF_WEEK a_DAY_OF_WEEK_FROM_1 a_YEAR h0 n0 (some (.int (nar .boolean (1 : Int32)))) T103.heap _
    rw [eq103]
    exact ⟨rfl, N103⟩
  · subst hk1
    show EndsQ _ _ _ _ _ _ _ (s₁.setTop (mkF m 8 #[.val (.int p1), .val (.int (1 : Int32)), .unset] []))
    refine EndsQ.go (b := s₁.setTop (mkF m 9 #[.val (.int p1), .val (.int (1 : Int32)), .unset] [(.int (1 : Int32))])) (fun t k => ?_) ?_
    · show Steps p.tables e below (s₁.setTop (mkF m 8 #[.val (.int p1), .val (.int (1 : Int32)), .unset] [])) _
      refine XS.iloadN X0.here hx rfl (hb hby at_8) rfl ?_
      show Steps p.tables e below (s₁.setTop (mkF m 9 #[.val (.int p1), .val (.int (1 : Int32)), .unset] [(.int (1 : Int32))])) _
      exact k
    obtain ⟨_, _, ⟨T104, L104, kk104, nn104⟩, -, X104, ⟨Lc104, hQ104, l104, y104, z104⟩, st104⟩ := Jvm.LawKit.callS X0 hx (y := (⟨"com/example/sextant/sextant/FieldSizePinLaw", "pick", "(I)Lcom/example/sextant/sextant/Field;"⟩ : MethodName)) hown (mvT hZ (hw _ (List.mem_of_getElem? (i := 1) rfl))) (mvT hZ (hw _ (List.mem_of_getElem? (i := 2) rfl))) (mvT hZ (hw _ (List.mem_of_getElem? (i := 3) rfl))) (mvT hZ (hw _ (List.mem_of_getElem? (i := 4) rfl))) (by decide) (backOf (W := 0) (rm1 l Z a0 hw [] (1 : Int32) a_SECOND a_MINUTE a_HOUR a_DAY_OF_MONTH a_MONTH a_DAY_OF_WEEK a_DAY_OF_WEEK_FROM_1 a_YEAR h0 n0 Z0 S_SECOND S_MINUTE S_HOUR S_DAY_OF_MONTH S_MONTH S_DAY_OF_WEEK S_DAY_OF_WEEK_FROM_1 S_YEAR) hZ (hw _ (List.mem_of_getElem? (i := 4) rfl)) (hw _ (List.mem_of_getElem? (i := 3) rfl)) (by decide) (by decide)) (g := (mkF m 9 #[.val (.int p1), .val (.int (1 : Int32)), .unset] [(.int (1 : Int32))])) rfl (by rw [hml]; rfl) (argsL := [(.int (1 : Int32))]) (rest := []) (lenOf pd_0 rfl) rfl (by show 2 * 0 + _ ≤ _; exact Nat.le_of_eq rfl) (hb hby at_9) (fun _ _ => ⟨rfl, e0, (by decide : 0 + 0 ≤ _), (by decide : 0 + 0 ≤ _)⟩)
    dsimp only [Pt.U, Pt.locs, Pt.cells, Pt.slots] at X104 l104 y104 z104 st104 hQ104
    subst l104 y104 z104
    obtain ⟨rfl, Nq104, eq104⟩ := hQ104
    have N104 := Fr.app N0 Nq104
    refine EndsQ.go st104 ?_
    show EndsQ _ _ _ _ _ _ _ (T104.setTop (mkF m 12 #[.val (.int p1), .val (.int (1 : Int32)), .unset] [(.ref (own_pick (1 : Int32) a_SECOND a_MINUTE a_HOUR a_DAY_OF_MONTH a_MONTH a_DAY_OF_WEEK a_DAY_OF_WEEK_FROM_1 a_YEAR))]))
    rw [(rfl : (own_pick (1 : Int32) a_SECOND a_MINUTE a_HOUR a_DAY_OF_MONTH a_MONTH a_DAY_OF_WEEK a_DAY_OF_WEEK_FROM_1 a_YEAR) = a_MINUTE)]
    show EndsQ _ _ _ _ _ _ _ (T104.setTop (mkF m 12 #[.val (.int p1), .val (.int (1 : Int32)), .unset] [(.ref a_MINUTE)]))
    refine EndsQ.go (b := T104.setTop (mkF m 14 #[.val (.int p1), .val (.int (1 : Int32)), .val (.ref a_MINUTE)] [(.ref a_MINUTE)])) (fun t k => ?_) ?_
    · show Steps p.tables e below (T104.setTop (mkF m 12 #[.val (.int p1), .val (.int (1 : Int32)), .unset] [(.ref a_MINUTE)])) _
      refine XS.astoreN X104.here hx rfl (hb hby at_12) rfl rfl (l' := #[.val (.int p1), .val (.int (1 : Int32)), .val (.ref a_MINUTE)]) rfl ?_
      show Steps p.tables e below (T104.setTop (mkF m 13 #[.val (.int p1), .val (.int (1 : Int32)), .val (.ref a_MINUTE)] [])) _
      refine XS.aloadN X104.here hx rfl (hb hby at_13) rfl rfl ?_
      show Steps p.tables e below (T104.setTop (mkF m 14 #[.val (.int p1), .val (.int (1 : Int32)), .val (.ref a_MINUTE)] [(.ref a_MINUTE)])) _
      exact k
    obtain ⟨cq105, kq105, qa105, qb105, qc105⟩ := isOf hZ eq104 E_MINUTE
    obtain ⟨_, _, ⟨T105, L105, kk105, nn105⟩, -, X105, ⟨Lc105, hQ105, l105, y105, z105⟩, st105⟩ := X104.virtualBack hx (y := (⟨"com/example/sextant/sextant/Field", "size", "()I"⟩ : MethodName)) (z := (⟨"com/example/sextant/sextant/Field", "size", "()I"⟩ : MethodName)) hown (mvT hZ (hw _ (List.mem_of_getElem? (i := 8) rfl))) (mvT hZ (hw _ (List.mem_of_getElem? (i := 9) rfl))) (notFace_of_selects (args := #[]) (mvT hZ (hw _ (List.mem_of_getElem? (i := 11) rfl)))) (mvT hZ (hw _ (List.mem_of_getElem? (i := 11) rfl))) (mvT hZ (hw _ (List.mem_of_getElem? (i := 10) rfl))) (by decide) (backOf (W := 0) (rm2 l Z a0 hw [] a_MINUTE (59 : Int32) (0 : Int32) h0 n0 Z0 F_MINUTE_max F_MINUTE_min) hZ (hw _ (List.mem_of_getElem? (i := 12) rfl)) (hw _ (List.mem_of_getElem? (i := 6) rfl)) (by decide) (by decide)) qa105 qc105 (g := (mkF m 14 #[.val (.int p1), .val (.int (1 : Int32)), .val (.ref a_MINUTE)] [(.ref a_MINUTE)])) rfl (by rw [hml]; rfl) (Steps.refl _) (argsL := []) (rest := []) (lenOf pd_1 rfl) rfl (by show 2 * 0 + _ ≤ _; exact Nat.le_of_eq rfl) (hb hby at_14) (fun _ _ => ⟨rfl, eq104, (by decide : 0 + 0 ≤ _), (by decide : 0 + 0 ≤ _)⟩)
    dsimp only [Pt.U, Pt.locs, Pt.cells, Pt.slots] at X105 l105 y105 z105 st105 hQ105
    subst l105 y105 z105
    obtain ⟨rfl, Nq105, eq105⟩ := hQ105
    have N105 := Fr.app N104 Nq105
    refine EndsQ.go (fun t k => st105.trans k) ?_
    show EndsQ _ _ _ _ _ _ _ (T105.setTop (mkF m 17 #[.val (.int p1), .val (.int (1 : Int32)), .val (.ref a_MINUTE)] [(.int (((59 : Int32) - (0 : Int32)) + (1 : Int32)))]))
    refine EndsQ.go (b := T105.setTop (mkF m 18 #[.val (.int p1), .val (.int (1 : Int32)), .val (.ref a_MINUTE)] [(.int (1 : Int32)), (.int (((59 : Int32) - (0 : Int32)) + (1 : Int32)))])) (fun t k => ?_) ?_
    · show Steps p.tables e below (T105.setTop (mkF m 17 #[.val (.int p1), .val (.int (1 : Int32)), .val (.ref a_MINUTE)] [(.int (((59 : Int32) - (0 : Int32)) + (1 : Int32)))])) _
      refine XS.iloadN X105.here hx rfl (hb hby at_17) rfl ?_
      show Steps p.tables e below (T105.setTop (mkF m 18 #[.val (.int p1), .val (.int (1 : Int32)), .val (.ref a_MINUTE)] [(.int (1 : Int32)), (.int (((59 : Int32) - (0 : Int32)) + (1 : Int32)))])) _
      exact k
    obtain ⟨_, _, ⟨T106, L106, kk106, nn106⟩, -, X106, ⟨Lc106, hQ106, l106, y106, z106⟩, st106⟩ := Jvm.LawKit.callS X105 hx (y := (⟨"com/example/sextant/sextant/FieldSizePinLaw", "expected", "(I)I"⟩ : MethodName)) hown (mvT hZ (hw _ (List.mem_of_getElem? (i := 17) rfl))) (mvT hZ (hw _ (List.mem_of_getElem? (i := 18) rfl))) (mvT hZ (hw _ (List.mem_of_getElem? (i := 3) rfl))) (mvT hZ (hw _ (List.mem_of_getElem? (i := 19) rfl))) (by decide) (backOf (W := 1) (rm3 l Z a0 hw [] (1 : Int32) h0 n0 Z0 ) hZ (hw _ (List.mem_of_getElem? (i := 19) rfl)) (hw _ (List.mem_of_getElem? (i := 3) rfl)) (by decide) (by decide)) (g := (mkF m 18 #[.val (.int p1), .val (.int (1 : Int32)), .val (.ref a_MINUTE)] [(.int (1 : Int32)), (.int (((59 : Int32) - (0 : Int32)) + (1 : Int32)))])) rfl (by rw [hml]; rfl) (argsL := [(.int (1 : Int32))]) (rest := [(.int (((59 : Int32) - (0 : Int32)) + (1 : Int32)))]) (lenOf pd_2 rfl) rfl (by show 2 * 0 + _ ≤ _; exact Nat.le_of_eq rfl) (hb hby at_18) (fun _ _ => ⟨rfl, eq105, (by decide : 0 + 0 ≤ _), (by decide : 0 + 0 ≤ _)⟩)
    dsimp only [Pt.U, Pt.locs, Pt.cells, Pt.slots] at X106 l106 y106 z106 st106 hQ106
    subst l106 y106 z106
    obtain ⟨rfl, Nq106, eq106⟩ := hQ106
    have N106 := Fr.app N105 Nq106
    refine EndsQ.go st106 ?_
    show EndsQ _ _ _ _ _ _ _ (T106.setTop (mkF m 21 #[.val (.int p1), .val (.int (1 : Int32)), .val (.ref a_MINUTE)] [(.int (own_exp (1 : Int32))), (.int (((59 : Int32) - (0 : Int32)) + (1 : Int32)))]))
    refine EndsQ.go (b := T106.setTop (mkF m 29 #[.val (.int p1), .val (.int (1 : Int32)), .val (.ref a_MINUTE)] [(.int (1 : Int32))])) (fun t k => ?_) ?_
    · show Steps p.tables e below (T106.setTop (mkF m 21 #[.val (.int p1), .val (.int (1 : Int32)), .val (.ref a_MINUTE)] [(.int (own_exp (1 : Int32))), (.int (((59 : Int32) - (0 : Int32)) + (1 : Int32)))])) _
      refine XS.icmpNo X106.here hx rfl (hb hby at_21) rfl (teq (by decide)).2 ?_
      show Steps p.tables e below (T106.setTop (mkF m 24 #[.val (.int p1), .val (.int (1 : Int32)), .val (.ref a_MINUTE)] [])) _
      refine XS.iconst X106.here hx rfl (hb hby at_24) ?_
      show Steps p.tables e below (T106.setTop (mkF m 25 #[.val (.int p1), .val (.int (1 : Int32)), .val (.ref a_MINUTE)] [(.int (1 : Int32))])) _
      refine XS.goto X106.here hx rfl (pc0 := 25) (pc' := 29) rfl (hb hby at_25) (by decide) (by decide) ?_
      show Steps p.tables e below (T106.setTop (mkF m 29 #[.val (.int p1), .val (.int (1 : Int32)), .val (.ref a_MINUTE)] [(.int (1 : Int32))])) _
      exact k
    refine EndsQ.retN X106 hx Bd.notSynchronized (t := .boolean) Bd.returns (by simp) (hb hby at_29) (by decide) (by decide) ?_
    show Q0 Z p1 a_SECOND a_MINUTE a_HOUR a_DAY_OF_MONTH a_MONTH a_DAY_OF_WEEK a_DAY_OF_WEEK_FROM_1 a_YEAR h0 n0 (some (.int (nar .boolean (1 : Int32)))) T106.heap _
    rw [eq106]
    exact ⟨rfl, N106⟩
  · subst hk2
    show EndsQ _ _ _ _ _ _ _ (s₁.setTop (mkF m 8 #[.val (.int p1), .val (.int (2 : Int32)), .unset] []))
    refine EndsQ.go (b := s₁.setTop (mkF m 9 #[.val (.int p1), .val (.int (2 : Int32)), .unset] [(.int (2 : Int32))])) (fun t k => ?_) ?_
    · show Steps p.tables e below (s₁.setTop (mkF m 8 #[.val (.int p1), .val (.int (2 : Int32)), .unset] [])) _
      refine XS.iloadN X0.here hx rfl (hb hby at_8) rfl ?_
      show Steps p.tables e below (s₁.setTop (mkF m 9 #[.val (.int p1), .val (.int (2 : Int32)), .unset] [(.int (2 : Int32))])) _
      exact k
    obtain ⟨_, _, ⟨T107, L107, kk107, nn107⟩, -, X107, ⟨Lc107, hQ107, l107, y107, z107⟩, st107⟩ := Jvm.LawKit.callS X0 hx (y := (⟨"com/example/sextant/sextant/FieldSizePinLaw", "pick", "(I)Lcom/example/sextant/sextant/Field;"⟩ : MethodName)) hown (mvT hZ (hw _ (List.mem_of_getElem? (i := 1) rfl))) (mvT hZ (hw _ (List.mem_of_getElem? (i := 2) rfl))) (mvT hZ (hw _ (List.mem_of_getElem? (i := 3) rfl))) (mvT hZ (hw _ (List.mem_of_getElem? (i := 4) rfl))) (by decide) (backOf (W := 0) (rm1 l Z a0 hw [] (2 : Int32) a_SECOND a_MINUTE a_HOUR a_DAY_OF_MONTH a_MONTH a_DAY_OF_WEEK a_DAY_OF_WEEK_FROM_1 a_YEAR h0 n0 Z0 S_SECOND S_MINUTE S_HOUR S_DAY_OF_MONTH S_MONTH S_DAY_OF_WEEK S_DAY_OF_WEEK_FROM_1 S_YEAR) hZ (hw _ (List.mem_of_getElem? (i := 4) rfl)) (hw _ (List.mem_of_getElem? (i := 3) rfl)) (by decide) (by decide)) (g := (mkF m 9 #[.val (.int p1), .val (.int (2 : Int32)), .unset] [(.int (2 : Int32))])) rfl (by rw [hml]; rfl) (argsL := [(.int (2 : Int32))]) (rest := []) (lenOf pd_0 rfl) rfl (by show 2 * 0 + _ ≤ _; exact Nat.le_of_eq rfl) (hb hby at_9) (fun _ _ => ⟨rfl, e0, (by decide : 0 + 0 ≤ _), (by decide : 0 + 0 ≤ _)⟩)
    dsimp only [Pt.U, Pt.locs, Pt.cells, Pt.slots] at X107 l107 y107 z107 st107 hQ107
    subst l107 y107 z107
    obtain ⟨rfl, Nq107, eq107⟩ := hQ107
    have N107 := Fr.app N0 Nq107
    refine EndsQ.go st107 ?_
    show EndsQ _ _ _ _ _ _ _ (T107.setTop (mkF m 12 #[.val (.int p1), .val (.int (2 : Int32)), .unset] [(.ref (own_pick (2 : Int32) a_SECOND a_MINUTE a_HOUR a_DAY_OF_MONTH a_MONTH a_DAY_OF_WEEK a_DAY_OF_WEEK_FROM_1 a_YEAR))]))
    rw [(rfl : (own_pick (2 : Int32) a_SECOND a_MINUTE a_HOUR a_DAY_OF_MONTH a_MONTH a_DAY_OF_WEEK a_DAY_OF_WEEK_FROM_1 a_YEAR) = a_HOUR)]
    show EndsQ _ _ _ _ _ _ _ (T107.setTop (mkF m 12 #[.val (.int p1), .val (.int (2 : Int32)), .unset] [(.ref a_HOUR)]))
    refine EndsQ.go (b := T107.setTop (mkF m 14 #[.val (.int p1), .val (.int (2 : Int32)), .val (.ref a_HOUR)] [(.ref a_HOUR)])) (fun t k => ?_) ?_
    · show Steps p.tables e below (T107.setTop (mkF m 12 #[.val (.int p1), .val (.int (2 : Int32)), .unset] [(.ref a_HOUR)])) _
      refine XS.astoreN X107.here hx rfl (hb hby at_12) rfl rfl (l' := #[.val (.int p1), .val (.int (2 : Int32)), .val (.ref a_HOUR)]) rfl ?_
      show Steps p.tables e below (T107.setTop (mkF m 13 #[.val (.int p1), .val (.int (2 : Int32)), .val (.ref a_HOUR)] [])) _
      refine XS.aloadN X107.here hx rfl (hb hby at_13) rfl rfl ?_
      show Steps p.tables e below (T107.setTop (mkF m 14 #[.val (.int p1), .val (.int (2 : Int32)), .val (.ref a_HOUR)] [(.ref a_HOUR)])) _
      exact k
    obtain ⟨cq108, kq108, qa108, qb108, qc108⟩ := isOf hZ eq107 E_HOUR
    obtain ⟨_, _, ⟨T108, L108, kk108, nn108⟩, -, X108, ⟨Lc108, hQ108, l108, y108, z108⟩, st108⟩ := X107.virtualBack hx (y := (⟨"com/example/sextant/sextant/Field", "size", "()I"⟩ : MethodName)) (z := (⟨"com/example/sextant/sextant/Field", "size", "()I"⟩ : MethodName)) hown (mvT hZ (hw _ (List.mem_of_getElem? (i := 8) rfl))) (mvT hZ (hw _ (List.mem_of_getElem? (i := 9) rfl))) (notFace_of_selects (args := #[]) (mvT hZ (hw _ (List.mem_of_getElem? (i := 11) rfl)))) (mvT hZ (hw _ (List.mem_of_getElem? (i := 11) rfl))) (mvT hZ (hw _ (List.mem_of_getElem? (i := 10) rfl))) (by decide) (backOf (W := 0) (rm2 l Z a0 hw [] a_HOUR (23 : Int32) (0 : Int32) h0 n0 Z0 F_HOUR_max F_HOUR_min) hZ (hw _ (List.mem_of_getElem? (i := 12) rfl)) (hw _ (List.mem_of_getElem? (i := 6) rfl)) (by decide) (by decide)) qa108 qc108 (g := (mkF m 14 #[.val (.int p1), .val (.int (2 : Int32)), .val (.ref a_HOUR)] [(.ref a_HOUR)])) rfl (by rw [hml]; rfl) (Steps.refl _) (argsL := []) (rest := []) (lenOf pd_1 rfl) rfl (by show 2 * 0 + _ ≤ _; exact Nat.le_of_eq rfl) (hb hby at_14) (fun _ _ => ⟨rfl, eq107, (by decide : 0 + 0 ≤ _), (by decide : 0 + 0 ≤ _)⟩)
    dsimp only [Pt.U, Pt.locs, Pt.cells, Pt.slots] at X108 l108 y108 z108 st108 hQ108
    subst l108 y108 z108
    obtain ⟨rfl, Nq108, eq108⟩ := hQ108
    have N108 := Fr.app N107 Nq108
    refine EndsQ.go (fun t k => st108.trans k) ?_
    show EndsQ _ _ _ _ _ _ _ (T108.setTop (mkF m 17 #[.val (.int p1), .val (.int (2 : Int32)), .val (.ref a_HOUR)] [(.int (((23 : Int32) - (0 : Int32)) + (1 : Int32)))]))
    refine EndsQ.go (b := T108.setTop (mkF m 18 #[.val (.int p1), .val (.int (2 : Int32)), .val (.ref a_HOUR)] [(.int (2 : Int32)), (.int (((23 : Int32) - (0 : Int32)) + (1 : Int32)))])) (fun t k => ?_) ?_
    · show Steps p.tables e below (T108.setTop (mkF m 17 #[.val (.int p1), .val (.int (2 : Int32)), .val (.ref a_HOUR)] [(.int (((23 : Int32) - (0 : Int32)) + (1 : Int32)))])) _
      refine XS.iloadN X108.here hx rfl (hb hby at_17) rfl ?_
      show Steps p.tables e below (T108.setTop (mkF m 18 #[.val (.int p1), .val (.int (2 : Int32)), .val (.ref a_HOUR)] [(.int (2 : Int32)), (.int (((23 : Int32) - (0 : Int32)) + (1 : Int32)))])) _
      exact k
    obtain ⟨_, _, ⟨T109, L109, kk109, nn109⟩, -, X109, ⟨Lc109, hQ109, l109, y109, z109⟩, st109⟩ := Jvm.LawKit.callS X108 hx (y := (⟨"com/example/sextant/sextant/FieldSizePinLaw", "expected", "(I)I"⟩ : MethodName)) hown (mvT hZ (hw _ (List.mem_of_getElem? (i := 17) rfl))) (mvT hZ (hw _ (List.mem_of_getElem? (i := 18) rfl))) (mvT hZ (hw _ (List.mem_of_getElem? (i := 3) rfl))) (mvT hZ (hw _ (List.mem_of_getElem? (i := 19) rfl))) (by decide) (backOf (W := 1) (rm3 l Z a0 hw [] (2 : Int32) h0 n0 Z0 ) hZ (hw _ (List.mem_of_getElem? (i := 19) rfl)) (hw _ (List.mem_of_getElem? (i := 3) rfl)) (by decide) (by decide)) (g := (mkF m 18 #[.val (.int p1), .val (.int (2 : Int32)), .val (.ref a_HOUR)] [(.int (2 : Int32)), (.int (((23 : Int32) - (0 : Int32)) + (1 : Int32)))])) rfl (by rw [hml]; rfl) (argsL := [(.int (2 : Int32))]) (rest := [(.int (((23 : Int32) - (0 : Int32)) + (1 : Int32)))]) (lenOf pd_2 rfl) rfl (by show 2 * 0 + _ ≤ _; exact Nat.le_of_eq rfl) (hb hby at_18) (fun _ _ => ⟨rfl, eq108, (by decide : 0 + 0 ≤ _), (by decide : 0 + 0 ≤ _)⟩)
    dsimp only [Pt.U, Pt.locs, Pt.cells, Pt.slots] at X109 l109 y109 z109 st109 hQ109
    subst l109 y109 z109
    obtain ⟨rfl, Nq109, eq109⟩ := hQ109
    have N109 := Fr.app N108 Nq109
    refine EndsQ.go st109 ?_
    show EndsQ _ _ _ _ _ _ _ (T109.setTop (mkF m 21 #[.val (.int p1), .val (.int (2 : Int32)), .val (.ref a_HOUR)] [(.int (own_exp (2 : Int32))), (.int (((23 : Int32) - (0 : Int32)) + (1 : Int32)))]))
    refine EndsQ.go (b := T109.setTop (mkF m 29 #[.val (.int p1), .val (.int (2 : Int32)), .val (.ref a_HOUR)] [(.int (1 : Int32))])) (fun t k => ?_) ?_
    · show Steps p.tables e below (T109.setTop (mkF m 21 #[.val (.int p1), .val (.int (2 : Int32)), .val (.ref a_HOUR)] [(.int (own_exp (2 : Int32))), (.int (((23 : Int32) - (0 : Int32)) + (1 : Int32)))])) _
      refine XS.icmpNo X109.here hx rfl (hb hby at_21) rfl (teq (by decide)).2 ?_
      show Steps p.tables e below (T109.setTop (mkF m 24 #[.val (.int p1), .val (.int (2 : Int32)), .val (.ref a_HOUR)] [])) _
      refine XS.iconst X109.here hx rfl (hb hby at_24) ?_
      show Steps p.tables e below (T109.setTop (mkF m 25 #[.val (.int p1), .val (.int (2 : Int32)), .val (.ref a_HOUR)] [(.int (1 : Int32))])) _
      refine XS.goto X109.here hx rfl (pc0 := 25) (pc' := 29) rfl (hb hby at_25) (by decide) (by decide) ?_
      show Steps p.tables e below (T109.setTop (mkF m 29 #[.val (.int p1), .val (.int (2 : Int32)), .val (.ref a_HOUR)] [(.int (1 : Int32))])) _
      exact k
    refine EndsQ.retN X109 hx Bd.notSynchronized (t := .boolean) Bd.returns (by simp) (hb hby at_29) (by decide) (by decide) ?_
    show Q0 Z p1 a_SECOND a_MINUTE a_HOUR a_DAY_OF_MONTH a_MONTH a_DAY_OF_WEEK a_DAY_OF_WEEK_FROM_1 a_YEAR h0 n0 (some (.int (nar .boolean (1 : Int32)))) T109.heap _
    rw [eq109]
    exact ⟨rfl, N109⟩
  · subst hk3
    show EndsQ _ _ _ _ _ _ _ (s₁.setTop (mkF m 8 #[.val (.int p1), .val (.int (3 : Int32)), .unset] []))
    refine EndsQ.go (b := s₁.setTop (mkF m 9 #[.val (.int p1), .val (.int (3 : Int32)), .unset] [(.int (3 : Int32))])) (fun t k => ?_) ?_
    · show Steps p.tables e below (s₁.setTop (mkF m 8 #[.val (.int p1), .val (.int (3 : Int32)), .unset] [])) _
      refine XS.iloadN X0.here hx rfl (hb hby at_8) rfl ?_
      show Steps p.tables e below (s₁.setTop (mkF m 9 #[.val (.int p1), .val (.int (3 : Int32)), .unset] [(.int (3 : Int32))])) _
      exact k
    obtain ⟨_, _, ⟨T110, L110, kk110, nn110⟩, -, X110, ⟨Lc110, hQ110, l110, y110, z110⟩, st110⟩ := Jvm.LawKit.callS X0 hx (y := (⟨"com/example/sextant/sextant/FieldSizePinLaw", "pick", "(I)Lcom/example/sextant/sextant/Field;"⟩ : MethodName)) hown (mvT hZ (hw _ (List.mem_of_getElem? (i := 1) rfl))) (mvT hZ (hw _ (List.mem_of_getElem? (i := 2) rfl))) (mvT hZ (hw _ (List.mem_of_getElem? (i := 3) rfl))) (mvT hZ (hw _ (List.mem_of_getElem? (i := 4) rfl))) (by decide) (backOf (W := 0) (rm1 l Z a0 hw [] (3 : Int32) a_SECOND a_MINUTE a_HOUR a_DAY_OF_MONTH a_MONTH a_DAY_OF_WEEK a_DAY_OF_WEEK_FROM_1 a_YEAR h0 n0 Z0 S_SECOND S_MINUTE S_HOUR S_DAY_OF_MONTH S_MONTH S_DAY_OF_WEEK S_DAY_OF_WEEK_FROM_1 S_YEAR) hZ (hw _ (List.mem_of_getElem? (i := 4) rfl)) (hw _ (List.mem_of_getElem? (i := 3) rfl)) (by decide) (by decide)) (g := (mkF m 9 #[.val (.int p1), .val (.int (3 : Int32)), .unset] [(.int (3 : Int32))])) rfl (by rw [hml]; rfl) (argsL := [(.int (3 : Int32))]) (rest := []) (lenOf pd_0 rfl) rfl (by show 2 * 0 + _ ≤ _; exact Nat.le_of_eq rfl) (hb hby at_9) (fun _ _ => ⟨rfl, e0, (by decide : 0 + 0 ≤ _), (by decide : 0 + 0 ≤ _)⟩)
    dsimp only [Pt.U, Pt.locs, Pt.cells, Pt.slots] at X110 l110 y110 z110 st110 hQ110
    subst l110 y110 z110
    obtain ⟨rfl, Nq110, eq110⟩ := hQ110
    have N110 := Fr.app N0 Nq110
    refine EndsQ.go st110 ?_
    show EndsQ _ _ _ _ _ _ _ (T110.setTop (mkF m 12 #[.val (.int p1), .val (.int (3 : Int32)), .unset] [(.ref (own_pick (3 : Int32) a_SECOND a_MINUTE a_HOUR a_DAY_OF_MONTH a_MONTH a_DAY_OF_WEEK a_DAY_OF_WEEK_FROM_1 a_YEAR))]))
    rw [(rfl : (own_pick (3 : Int32) a_SECOND a_MINUTE a_HOUR a_DAY_OF_MONTH a_MONTH a_DAY_OF_WEEK a_DAY_OF_WEEK_FROM_1 a_YEAR) = a_DAY_OF_MONTH)]
    show EndsQ _ _ _ _ _ _ _ (T110.setTop (mkF m 12 #[.val (.int p1), .val (.int (3 : Int32)), .unset] [(.ref a_DAY_OF_MONTH)]))
    refine EndsQ.go (b := T110.setTop (mkF m 14 #[.val (.int p1), .val (.int (3 : Int32)), .val (.ref a_DAY_OF_MONTH)] [(.ref a_DAY_OF_MONTH)])) (fun t k => ?_) ?_
    · show Steps p.tables e below (T110.setTop (mkF m 12 #[.val (.int p1), .val (.int (3 : Int32)), .unset] [(.ref a_DAY_OF_MONTH)])) _
      refine XS.astoreN X110.here hx rfl (hb hby at_12) rfl rfl (l' := #[.val (.int p1), .val (.int (3 : Int32)), .val (.ref a_DAY_OF_MONTH)]) rfl ?_
      show Steps p.tables e below (T110.setTop (mkF m 13 #[.val (.int p1), .val (.int (3 : Int32)), .val (.ref a_DAY_OF_MONTH)] [])) _
      refine XS.aloadN X110.here hx rfl (hb hby at_13) rfl rfl ?_
      show Steps p.tables e below (T110.setTop (mkF m 14 #[.val (.int p1), .val (.int (3 : Int32)), .val (.ref a_DAY_OF_MONTH)] [(.ref a_DAY_OF_MONTH)])) _
      exact k
    obtain ⟨cq111, kq111, qa111, qb111, qc111⟩ := isOf hZ eq110 E_DAY_OF_MONTH
    obtain ⟨_, _, ⟨T111, L111, kk111, nn111⟩, -, X111, ⟨Lc111, hQ111, l111, y111, z111⟩, st111⟩ := X110.virtualBack hx (y := (⟨"com/example/sextant/sextant/Field", "size", "()I"⟩ : MethodName)) (z := (⟨"com/example/sextant/sextant/Field", "size", "()I"⟩ : MethodName)) hown (mvT hZ (hw _ (List.mem_of_getElem? (i := 8) rfl))) (mvT hZ (hw _ (List.mem_of_getElem? (i := 9) rfl))) (notFace_of_selects (args := #[]) (mvT hZ (hw _ (List.mem_of_getElem? (i := 11) rfl)))) (mvT hZ (hw _ (List.mem_of_getElem? (i := 11) rfl))) (mvT hZ (hw _ (List.mem_of_getElem? (i := 10) rfl))) (by decide) (backOf (W := 0) (rm2 l Z a0 hw [] a_DAY_OF_MONTH (31 : Int32) (1 : Int32) h0 n0 Z0 F_DAY_OF_MONTH_max F_DAY_OF_MONTH_min) hZ (hw _ (List.mem_of_getElem? (i := 12) rfl)) (hw _ (List.mem_of_getElem? (i := 6) rfl)) (by decide) (by decide)) qa111 qc111 (g := (mkF m 14 #[.val (.int p1), .val (.int (3 : Int32)), .val (.ref a_DAY_OF_MONTH)] [(.ref a_DAY_OF_MONTH)])) rfl (by rw [hml]; rfl) (Steps.refl _) (argsL := []) (rest := []) (lenOf pd_1 rfl) rfl (by show 2 * 0 + _ ≤ _; exact Nat.le_of_eq rfl) (hb hby at_14) (fun _ _ => ⟨rfl, eq110, (by decide : 0 + 0 ≤ _), (by decide : 0 + 0 ≤ _)⟩)
    dsimp only [Pt.U, Pt.locs, Pt.cells, Pt.slots] at X111 l111 y111 z111 st111 hQ111
    subst l111 y111 z111
    obtain ⟨rfl, Nq111, eq111⟩ := hQ111
    have N111 := Fr.app N110 Nq111
    refine EndsQ.go (fun t k => st111.trans k) ?_
    show EndsQ _ _ _ _ _ _ _ (T111.setTop (mkF m 17 #[.val (.int p1), .val (.int (3 : Int32)), .val (.ref a_DAY_OF_MONTH)] [(.int (((31 : Int32) - (1 : Int32)) + (1 : Int32)))]))
    refine EndsQ.go (b := T111.setTop (mkF m 18 #[.val (.int p1), .val (.int (3 : Int32)), .val (.ref a_DAY_OF_MONTH)] [(.int (3 : Int32)), (.int (((31 : Int32) - (1 : Int32)) + (1 : Int32)))])) (fun t k => ?_) ?_
    · show Steps p.tables e below (T111.setTop (mkF m 17 #[.val (.int p1), .val (.int (3 : Int32)), .val (.ref a_DAY_OF_MONTH)] [(.int (((31 : Int32) - (1 : Int32)) + (1 : Int32)))])) _
      refine XS.iloadN X111.here hx rfl (hb hby at_17) rfl ?_
      show Steps p.tables e below (T111.setTop (mkF m 18 #[.val (.int p1), .val (.int (3 : Int32)), .val (.ref a_DAY_OF_MONTH)] [(.int (3 : Int32)), (.int (((31 : Int32) - (1 : Int32)) + (1 : Int32)))])) _
      exact k
    obtain ⟨_, _, ⟨T112, L112, kk112, nn112⟩, -, X112, ⟨Lc112, hQ112, l112, y112, z112⟩, st112⟩ := Jvm.LawKit.callS X111 hx (y := (⟨"com/example/sextant/sextant/FieldSizePinLaw", "expected", "(I)I"⟩ : MethodName)) hown (mvT hZ (hw _ (List.mem_of_getElem? (i := 17) rfl))) (mvT hZ (hw _ (List.mem_of_getElem? (i := 18) rfl))) (mvT hZ (hw _ (List.mem_of_getElem? (i := 3) rfl))) (mvT hZ (hw _ (List.mem_of_getElem? (i := 19) rfl))) (by decide) (backOf (W := 1) (rm3 l Z a0 hw [] (3 : Int32) h0 n0 Z0 ) hZ (hw _ (List.mem_of_getElem? (i := 19) rfl)) (hw _ (List.mem_of_getElem? (i := 3) rfl)) (by decide) (by decide)) (g := (mkF m 18 #[.val (.int p1), .val (.int (3 : Int32)), .val (.ref a_DAY_OF_MONTH)] [(.int (3 : Int32)), (.int (((31 : Int32) - (1 : Int32)) + (1 : Int32)))])) rfl (by rw [hml]; rfl) (argsL := [(.int (3 : Int32))]) (rest := [(.int (((31 : Int32) - (1 : Int32)) + (1 : Int32)))]) (lenOf pd_2 rfl) rfl (by show 2 * 0 + _ ≤ _; exact Nat.le_of_eq rfl) (hb hby at_18) (fun _ _ => ⟨rfl, eq111, (by decide : 0 + 0 ≤ _), (by decide : 0 + 0 ≤ _)⟩)
    dsimp only [Pt.U, Pt.locs, Pt.cells, Pt.slots] at X112 l112 y112 z112 st112 hQ112
    subst l112 y112 z112
    obtain ⟨rfl, Nq112, eq112⟩ := hQ112
    have N112 := Fr.app N111 Nq112
    refine EndsQ.go st112 ?_
    show EndsQ _ _ _ _ _ _ _ (T112.setTop (mkF m 21 #[.val (.int p1), .val (.int (3 : Int32)), .val (.ref a_DAY_OF_MONTH)] [(.int (own_exp (3 : Int32))), (.int (((31 : Int32) - (1 : Int32)) + (1 : Int32)))]))
    refine EndsQ.go (b := T112.setTop (mkF m 29 #[.val (.int p1), .val (.int (3 : Int32)), .val (.ref a_DAY_OF_MONTH)] [(.int (1 : Int32))])) (fun t k => ?_) ?_
    · show Steps p.tables e below (T112.setTop (mkF m 21 #[.val (.int p1), .val (.int (3 : Int32)), .val (.ref a_DAY_OF_MONTH)] [(.int (own_exp (3 : Int32))), (.int (((31 : Int32) - (1 : Int32)) + (1 : Int32)))])) _
      refine XS.icmpNo X112.here hx rfl (hb hby at_21) rfl (teq (by decide)).2 ?_
      show Steps p.tables e below (T112.setTop (mkF m 24 #[.val (.int p1), .val (.int (3 : Int32)), .val (.ref a_DAY_OF_MONTH)] [])) _
      refine XS.iconst X112.here hx rfl (hb hby at_24) ?_
      show Steps p.tables e below (T112.setTop (mkF m 25 #[.val (.int p1), .val (.int (3 : Int32)), .val (.ref a_DAY_OF_MONTH)] [(.int (1 : Int32))])) _
      refine XS.goto X112.here hx rfl (pc0 := 25) (pc' := 29) rfl (hb hby at_25) (by decide) (by decide) ?_
      show Steps p.tables e below (T112.setTop (mkF m 29 #[.val (.int p1), .val (.int (3 : Int32)), .val (.ref a_DAY_OF_MONTH)] [(.int (1 : Int32))])) _
      exact k
    refine EndsQ.retN X112 hx Bd.notSynchronized (t := .boolean) Bd.returns (by simp) (hb hby at_29) (by decide) (by decide) ?_
    show Q0 Z p1 a_SECOND a_MINUTE a_HOUR a_DAY_OF_MONTH a_MONTH a_DAY_OF_WEEK a_DAY_OF_WEEK_FROM_1 a_YEAR h0 n0 (some (.int (nar .boolean (1 : Int32)))) T112.heap _
    rw [eq112]
    exact ⟨rfl, N112⟩
  · subst hk4
    show EndsQ _ _ _ _ _ _ _ (s₁.setTop (mkF m 8 #[.val (.int p1), .val (.int (4 : Int32)), .unset] []))
    refine EndsQ.go (b := s₁.setTop (mkF m 9 #[.val (.int p1), .val (.int (4 : Int32)), .unset] [(.int (4 : Int32))])) (fun t k => ?_) ?_
    · show Steps p.tables e below (s₁.setTop (mkF m 8 #[.val (.int p1), .val (.int (4 : Int32)), .unset] [])) _
      refine XS.iloadN X0.here hx rfl (hb hby at_8) rfl ?_
      show Steps p.tables e below (s₁.setTop (mkF m 9 #[.val (.int p1), .val (.int (4 : Int32)), .unset] [(.int (4 : Int32))])) _
      exact k
    obtain ⟨_, _, ⟨T113, L113, kk113, nn113⟩, -, X113, ⟨Lc113, hQ113, l113, y113, z113⟩, st113⟩ := Jvm.LawKit.callS X0 hx (y := (⟨"com/example/sextant/sextant/FieldSizePinLaw", "pick", "(I)Lcom/example/sextant/sextant/Field;"⟩ : MethodName)) hown (mvT hZ (hw _ (List.mem_of_getElem? (i := 1) rfl))) (mvT hZ (hw _ (List.mem_of_getElem? (i := 2) rfl))) (mvT hZ (hw _ (List.mem_of_getElem? (i := 3) rfl))) (mvT hZ (hw _ (List.mem_of_getElem? (i := 4) rfl))) (by decide) (backOf (W := 0) (rm1 l Z a0 hw [] (4 : Int32) a_SECOND a_MINUTE a_HOUR a_DAY_OF_MONTH a_MONTH a_DAY_OF_WEEK a_DAY_OF_WEEK_FROM_1 a_YEAR h0 n0 Z0 S_SECOND S_MINUTE S_HOUR S_DAY_OF_MONTH S_MONTH S_DAY_OF_WEEK S_DAY_OF_WEEK_FROM_1 S_YEAR) hZ (hw _ (List.mem_of_getElem? (i := 4) rfl)) (hw _ (List.mem_of_getElem? (i := 3) rfl)) (by decide) (by decide)) (g := (mkF m 9 #[.val (.int p1), .val (.int (4 : Int32)), .unset] [(.int (4 : Int32))])) rfl (by rw [hml]; rfl) (argsL := [(.int (4 : Int32))]) (rest := []) (lenOf pd_0 rfl) rfl (by show 2 * 0 + _ ≤ _; exact Nat.le_of_eq rfl) (hb hby at_9) (fun _ _ => ⟨rfl, e0, (by decide : 0 + 0 ≤ _), (by decide : 0 + 0 ≤ _)⟩)
    dsimp only [Pt.U, Pt.locs, Pt.cells, Pt.slots] at X113 l113 y113 z113 st113 hQ113
    subst l113 y113 z113
    obtain ⟨rfl, Nq113, eq113⟩ := hQ113
    have N113 := Fr.app N0 Nq113
    refine EndsQ.go st113 ?_
    show EndsQ _ _ _ _ _ _ _ (T113.setTop (mkF m 12 #[.val (.int p1), .val (.int (4 : Int32)), .unset] [(.ref (own_pick (4 : Int32) a_SECOND a_MINUTE a_HOUR a_DAY_OF_MONTH a_MONTH a_DAY_OF_WEEK a_DAY_OF_WEEK_FROM_1 a_YEAR))]))
    rw [(rfl : (own_pick (4 : Int32) a_SECOND a_MINUTE a_HOUR a_DAY_OF_MONTH a_MONTH a_DAY_OF_WEEK a_DAY_OF_WEEK_FROM_1 a_YEAR) = a_MONTH)]
    show EndsQ _ _ _ _ _ _ _ (T113.setTop (mkF m 12 #[.val (.int p1), .val (.int (4 : Int32)), .unset] [(.ref a_MONTH)]))
    refine EndsQ.go (b := T113.setTop (mkF m 14 #[.val (.int p1), .val (.int (4 : Int32)), .val (.ref a_MONTH)] [(.ref a_MONTH)])) (fun t k => ?_) ?_
    · show Steps p.tables e below (T113.setTop (mkF m 12 #[.val (.int p1), .val (.int (4 : Int32)), .unset] [(.ref a_MONTH)])) _
      refine XS.astoreN X113.here hx rfl (hb hby at_12) rfl rfl (l' := #[.val (.int p1), .val (.int (4 : Int32)), .val (.ref a_MONTH)]) rfl ?_
      show Steps p.tables e below (T113.setTop (mkF m 13 #[.val (.int p1), .val (.int (4 : Int32)), .val (.ref a_MONTH)] [])) _
      refine XS.aloadN X113.here hx rfl (hb hby at_13) rfl rfl ?_
      show Steps p.tables e below (T113.setTop (mkF m 14 #[.val (.int p1), .val (.int (4 : Int32)), .val (.ref a_MONTH)] [(.ref a_MONTH)])) _
      exact k
    obtain ⟨cq114, kq114, qa114, qb114, qc114⟩ := isOf hZ eq113 E_MONTH
    obtain ⟨_, _, ⟨T114, L114, kk114, nn114⟩, -, X114, ⟨Lc114, hQ114, l114, y114, z114⟩, st114⟩ := X113.virtualBack hx (y := (⟨"com/example/sextant/sextant/Field", "size", "()I"⟩ : MethodName)) (z := (⟨"com/example/sextant/sextant/Field", "size", "()I"⟩ : MethodName)) hown (mvT hZ (hw _ (List.mem_of_getElem? (i := 8) rfl))) (mvT hZ (hw _ (List.mem_of_getElem? (i := 9) rfl))) (notFace_of_selects (args := #[]) (mvT hZ (hw _ (List.mem_of_getElem? (i := 11) rfl)))) (mvT hZ (hw _ (List.mem_of_getElem? (i := 11) rfl))) (mvT hZ (hw _ (List.mem_of_getElem? (i := 10) rfl))) (by decide) (backOf (W := 0) (rm2 l Z a0 hw [] a_MONTH (12 : Int32) (1 : Int32) h0 n0 Z0 F_MONTH_max F_MONTH_min) hZ (hw _ (List.mem_of_getElem? (i := 12) rfl)) (hw _ (List.mem_of_getElem? (i := 6) rfl)) (by decide) (by decide)) qa114 qc114 (g := (mkF m 14 #[.val (.int p1), .val (.int (4 : Int32)), .val (.ref a_MONTH)] [(.ref a_MONTH)])) rfl (by rw [hml]; rfl) (Steps.refl _) (argsL := []) (rest := []) (lenOf pd_1 rfl) rfl (by show 2 * 0 + _ ≤ _; exact Nat.le_of_eq rfl) (hb hby at_14) (fun _ _ => ⟨rfl, eq113, (by decide : 0 + 0 ≤ _), (by decide : 0 + 0 ≤ _)⟩)
    dsimp only [Pt.U, Pt.locs, Pt.cells, Pt.slots] at X114 l114 y114 z114 st114 hQ114
    subst l114 y114 z114
    obtain ⟨rfl, Nq114, eq114⟩ := hQ114
    have N114 := Fr.app N113 Nq114
    refine EndsQ.go (fun t k => st114.trans k) ?_
    show EndsQ _ _ _ _ _ _ _ (T114.setTop (mkF m 17 #[.val (.int p1), .val (.int (4 : Int32)), .val (.ref a_MONTH)] [(.int (((12 : Int32) - (1 : Int32)) + (1 : Int32)))]))
    refine EndsQ.go (b := T114.setTop (mkF m 18 #[.val (.int p1), .val (.int (4 : Int32)), .val (.ref a_MONTH)] [(.int (4 : Int32)), (.int (((12 : Int32) - (1 : Int32)) + (1 : Int32)))])) (fun t k => ?_) ?_
    · show Steps p.tables e below (T114.setTop (mkF m 17 #[.val (.int p1), .val (.int (4 : Int32)), .val (.ref a_MONTH)] [(.int (((12 : Int32) - (1 : Int32)) + (1 : Int32)))])) _
      refine XS.iloadN X114.here hx rfl (hb hby at_17) rfl ?_
      show Steps p.tables e below (T114.setTop (mkF m 18 #[.val (.int p1), .val (.int (4 : Int32)), .val (.ref a_MONTH)] [(.int (4 : Int32)), (.int (((12 : Int32) - (1 : Int32)) + (1 : Int32)))])) _
      exact k
    obtain ⟨_, _, ⟨T115, L115, kk115, nn115⟩, -, X115, ⟨Lc115, hQ115, l115, y115, z115⟩, st115⟩ := Jvm.LawKit.callS X114 hx (y := (⟨"com/example/sextant/sextant/FieldSizePinLaw", "expected", "(I)I"⟩ : MethodName)) hown (mvT hZ (hw _ (List.mem_of_getElem? (i := 17) rfl))) (mvT hZ (hw _ (List.mem_of_getElem? (i := 18) rfl))) (mvT hZ (hw _ (List.mem_of_getElem? (i := 3) rfl))) (mvT hZ (hw _ (List.mem_of_getElem? (i := 19) rfl))) (by decide) (backOf (W := 1) (rm3 l Z a0 hw [] (4 : Int32) h0 n0 Z0 ) hZ (hw _ (List.mem_of_getElem? (i := 19) rfl)) (hw _ (List.mem_of_getElem? (i := 3) rfl)) (by decide) (by decide)) (g := (mkF m 18 #[.val (.int p1), .val (.int (4 : Int32)), .val (.ref a_MONTH)] [(.int (4 : Int32)), (.int (((12 : Int32) - (1 : Int32)) + (1 : Int32)))])) rfl (by rw [hml]; rfl) (argsL := [(.int (4 : Int32))]) (rest := [(.int (((12 : Int32) - (1 : Int32)) + (1 : Int32)))]) (lenOf pd_2 rfl) rfl (by show 2 * 0 + _ ≤ _; exact Nat.le_of_eq rfl) (hb hby at_18) (fun _ _ => ⟨rfl, eq114, (by decide : 0 + 0 ≤ _), (by decide : 0 + 0 ≤ _)⟩)
    dsimp only [Pt.U, Pt.locs, Pt.cells, Pt.slots] at X115 l115 y115 z115 st115 hQ115
    subst l115 y115 z115
    obtain ⟨rfl, Nq115, eq115⟩ := hQ115
    have N115 := Fr.app N114 Nq115
    refine EndsQ.go st115 ?_
    show EndsQ _ _ _ _ _ _ _ (T115.setTop (mkF m 21 #[.val (.int p1), .val (.int (4 : Int32)), .val (.ref a_MONTH)] [(.int (own_exp (4 : Int32))), (.int (((12 : Int32) - (1 : Int32)) + (1 : Int32)))]))
    refine EndsQ.go (b := T115.setTop (mkF m 29 #[.val (.int p1), .val (.int (4 : Int32)), .val (.ref a_MONTH)] [(.int (1 : Int32))])) (fun t k => ?_) ?_
    · show Steps p.tables e below (T115.setTop (mkF m 21 #[.val (.int p1), .val (.int (4 : Int32)), .val (.ref a_MONTH)] [(.int (own_exp (4 : Int32))), (.int (((12 : Int32) - (1 : Int32)) + (1 : Int32)))])) _
      refine XS.icmpNo X115.here hx rfl (hb hby at_21) rfl (teq (by decide)).2 ?_
      show Steps p.tables e below (T115.setTop (mkF m 24 #[.val (.int p1), .val (.int (4 : Int32)), .val (.ref a_MONTH)] [])) _
      refine XS.iconst X115.here hx rfl (hb hby at_24) ?_
      show Steps p.tables e below (T115.setTop (mkF m 25 #[.val (.int p1), .val (.int (4 : Int32)), .val (.ref a_MONTH)] [(.int (1 : Int32))])) _
      refine XS.goto X115.here hx rfl (pc0 := 25) (pc' := 29) rfl (hb hby at_25) (by decide) (by decide) ?_
      show Steps p.tables e below (T115.setTop (mkF m 29 #[.val (.int p1), .val (.int (4 : Int32)), .val (.ref a_MONTH)] [(.int (1 : Int32))])) _
      exact k
    refine EndsQ.retN X115 hx Bd.notSynchronized (t := .boolean) Bd.returns (by simp) (hb hby at_29) (by decide) (by decide) ?_
    show Q0 Z p1 a_SECOND a_MINUTE a_HOUR a_DAY_OF_MONTH a_MONTH a_DAY_OF_WEEK a_DAY_OF_WEEK_FROM_1 a_YEAR h0 n0 (some (.int (nar .boolean (1 : Int32)))) T115.heap _
    rw [eq115]
    exact ⟨rfl, N115⟩
  · subst hk5
    show EndsQ _ _ _ _ _ _ _ (s₁.setTop (mkF m 8 #[.val (.int p1), .val (.int (5 : Int32)), .unset] []))
    refine EndsQ.go (b := s₁.setTop (mkF m 9 #[.val (.int p1), .val (.int (5 : Int32)), .unset] [(.int (5 : Int32))])) (fun t k => ?_) ?_
    · show Steps p.tables e below (s₁.setTop (mkF m 8 #[.val (.int p1), .val (.int (5 : Int32)), .unset] [])) _
      refine XS.iloadN X0.here hx rfl (hb hby at_8) rfl ?_
      show Steps p.tables e below (s₁.setTop (mkF m 9 #[.val (.int p1), .val (.int (5 : Int32)), .unset] [(.int (5 : Int32))])) _
      exact k
    obtain ⟨_, _, ⟨T116, L116, kk116, nn116⟩, -, X116, ⟨Lc116, hQ116, l116, y116, z116⟩, st116⟩ := Jvm.LawKit.callS X0 hx (y := (⟨"com/example/sextant/sextant/FieldSizePinLaw", "pick", "(I)Lcom/example/sextant/sextant/Field;"⟩ : MethodName)) hown (mvT hZ (hw _ (List.mem_of_getElem? (i := 1) rfl))) (mvT hZ (hw _ (List.mem_of_getElem? (i := 2) rfl))) (mvT hZ (hw _ (List.mem_of_getElem? (i := 3) rfl))) (mvT hZ (hw _ (List.mem_of_getElem? (i := 4) rfl))) (by decide) (backOf (W := 0) (rm1 l Z a0 hw [] (5 : Int32) a_SECOND a_MINUTE a_HOUR a_DAY_OF_MONTH a_MONTH a_DAY_OF_WEEK a_DAY_OF_WEEK_FROM_1 a_YEAR h0 n0 Z0 S_SECOND S_MINUTE S_HOUR S_DAY_OF_MONTH S_MONTH S_DAY_OF_WEEK S_DAY_OF_WEEK_FROM_1 S_YEAR) hZ (hw _ (List.mem_of_getElem? (i := 4) rfl)) (hw _ (List.mem_of_getElem? (i := 3) rfl)) (by decide) (by decide)) (g := (mkF m 9 #[.val (.int p1), .val (.int (5 : Int32)), .unset] [(.int (5 : Int32))])) rfl (by rw [hml]; rfl) (argsL := [(.int (5 : Int32))]) (rest := []) (lenOf pd_0 rfl) rfl (by show 2 * 0 + _ ≤ _; exact Nat.le_of_eq rfl) (hb hby at_9) (fun _ _ => ⟨rfl, e0, (by decide : 0 + 0 ≤ _), (by decide : 0 + 0 ≤ _)⟩)
    dsimp only [Pt.U, Pt.locs, Pt.cells, Pt.slots] at X116 l116 y116 z116 st116 hQ116
    subst l116 y116 z116
    obtain ⟨rfl, Nq116, eq116⟩ := hQ116
    have N116 := Fr.app N0 Nq116
    refine EndsQ.go st116 ?_
    show EndsQ _ _ _ _ _ _ _ (T116.setTop (mkF m 12 #[.val (.int p1), .val (.int (5 : Int32)), .unset] [(.ref (own_pick (5 : Int32) a_SECOND a_MINUTE a_HOUR a_DAY_OF_MONTH a_MONTH a_DAY_OF_WEEK a_DAY_OF_WEEK_FROM_1 a_YEAR))]))
    rw [(rfl : (own_pick (5 : Int32) a_SECOND a_MINUTE a_HOUR a_DAY_OF_MONTH a_MONTH a_DAY_OF_WEEK a_DAY_OF_WEEK_FROM_1 a_YEAR) = a_DAY_OF_WEEK)]
    show EndsQ _ _ _ _ _ _ _ (T116.setTop (mkF m 12 #[.val (.int p1), .val (.int (5 : Int32)), .unset] [(.ref a_DAY_OF_WEEK)]))
    refine EndsQ.go (b := T116.setTop (mkF m 14 #[.val (.int p1), .val (.int (5 : Int32)), .val (.ref a_DAY_OF_WEEK)] [(.ref a_DAY_OF_WEEK)])) (fun t k => ?_) ?_
    · show Steps p.tables e below (T116.setTop (mkF m 12 #[.val (.int p1), .val (.int (5 : Int32)), .unset] [(.ref a_DAY_OF_WEEK)])) _
      refine XS.astoreN X116.here hx rfl (hb hby at_12) rfl rfl (l' := #[.val (.int p1), .val (.int (5 : Int32)), .val (.ref a_DAY_OF_WEEK)]) rfl ?_
      show Steps p.tables e below (T116.setTop (mkF m 13 #[.val (.int p1), .val (.int (5 : Int32)), .val (.ref a_DAY_OF_WEEK)] [])) _
      refine XS.aloadN X116.here hx rfl (hb hby at_13) rfl rfl ?_
      show Steps p.tables e below (T116.setTop (mkF m 14 #[.val (.int p1), .val (.int (5 : Int32)), .val (.ref a_DAY_OF_WEEK)] [(.ref a_DAY_OF_WEEK)])) _
      exact k
    obtain ⟨cq117, kq117, qa117, qb117, qc117⟩ := isOf hZ eq116 E_DAY_OF_WEEK
    obtain ⟨_, _, ⟨T117, L117, kk117, nn117⟩, -, X117, ⟨Lc117, hQ117, l117, y117, z117⟩, st117⟩ := X116.virtualBack hx (y := (⟨"com/example/sextant/sextant/Field", "size", "()I"⟩ : MethodName)) (z := (⟨"com/example/sextant/sextant/Field", "size", "()I"⟩ : MethodName)) hown (mvT hZ (hw _ (List.mem_of_getElem? (i := 8) rfl))) (mvT hZ (hw _ (List.mem_of_getElem? (i := 9) rfl))) (notFace_of_selects (args := #[]) (mvT hZ (hw _ (List.mem_of_getElem? (i := 11) rfl)))) (mvT hZ (hw _ (List.mem_of_getElem? (i := 11) rfl))) (mvT hZ (hw _ (List.mem_of_getElem? (i := 10) rfl))) (by decide) (backOf (W := 0) (rm2 l Z a0 hw [] a_DAY_OF_WEEK (7 : Int32) (0 : Int32) h0 n0 Z0 F_DAY_OF_WEEK_max F_DAY_OF_WEEK_min) hZ (hw _ (List.mem_of_getElem? (i := 12) rfl)) (hw _ (List.mem_of_getElem? (i := 6) rfl)) (by decide) (by decide)) qa117 qc117 (g := (mkF m 14 #[.val (.int p1), .val (.int (5 : Int32)), .val (.ref a_DAY_OF_WEEK)] [(.ref a_DAY_OF_WEEK)])) rfl (by rw [hml]; rfl) (Steps.refl _) (argsL := []) (rest := []) (lenOf pd_1 rfl) rfl (by show 2 * 0 + _ ≤ _; exact Nat.le_of_eq rfl) (hb hby at_14) (fun _ _ => ⟨rfl, eq116, (by decide : 0 + 0 ≤ _), (by decide : 0 + 0 ≤ _)⟩)
    dsimp only [Pt.U, Pt.locs, Pt.cells, Pt.slots] at X117 l117 y117 z117 st117 hQ117
    subst l117 y117 z117
    obtain ⟨rfl, Nq117, eq117⟩ := hQ117
    have N117 := Fr.app N116 Nq117
    refine EndsQ.go (fun t k => st117.trans k) ?_
    show EndsQ _ _ _ _ _ _ _ (T117.setTop (mkF m 17 #[.val (.int p1), .val (.int (5 : Int32)), .val (.ref a_DAY_OF_WEEK)] [(.int (((7 : Int32) - (0 : Int32)) + (1 : Int32)))]))
    refine EndsQ.go (b := T117.setTop (mkF m 18 #[.val (.int p1), .val (.int (5 : Int32)), .val (.ref a_DAY_OF_WEEK)] [(.int (5 : Int32)), (.int (((7 : Int32) - (0 : Int32)) + (1 : Int32)))])) (fun t k => ?_) ?_
    · show Steps p.tables e below (T117.setTop (mkF m 17 #[.val (.int p1), .val (.int (5 : Int32)), .val (.ref a_DAY_OF_WEEK)] [(.int (((7 : Int32) - (0 : Int32)) + (1 : Int32)))])) _
      refine XS.iloadN X117.here hx rfl (hb hby at_17) rfl ?_
      show Steps p.tables e below (T117.setTop (mkF m 18 #[.val (.int p1), .val (.int (5 : Int32)), .val (.ref a_DAY_OF_WEEK)] [(.int (5 : Int32)), (.int (((7 : Int32) - (0 : Int32)) + (1 : Int32)))])) _
      exact k
    obtain ⟨_, _, ⟨T118, L118, kk118, nn118⟩, -, X118, ⟨Lc118, hQ118, l118, y118, z118⟩, st118⟩ := Jvm.LawKit.callS X117 hx (y := (⟨"com/example/sextant/sextant/FieldSizePinLaw", "expected", "(I)I"⟩ : MethodName)) hown (mvT hZ (hw _ (List.mem_of_getElem? (i := 17) rfl))) (mvT hZ (hw _ (List.mem_of_getElem? (i := 18) rfl))) (mvT hZ (hw _ (List.mem_of_getElem? (i := 3) rfl))) (mvT hZ (hw _ (List.mem_of_getElem? (i := 19) rfl))) (by decide) (backOf (W := 1) (rm3 l Z a0 hw [] (5 : Int32) h0 n0 Z0 ) hZ (hw _ (List.mem_of_getElem? (i := 19) rfl)) (hw _ (List.mem_of_getElem? (i := 3) rfl)) (by decide) (by decide)) (g := (mkF m 18 #[.val (.int p1), .val (.int (5 : Int32)), .val (.ref a_DAY_OF_WEEK)] [(.int (5 : Int32)), (.int (((7 : Int32) - (0 : Int32)) + (1 : Int32)))])) rfl (by rw [hml]; rfl) (argsL := [(.int (5 : Int32))]) (rest := [(.int (((7 : Int32) - (0 : Int32)) + (1 : Int32)))]) (lenOf pd_2 rfl) rfl (by show 2 * 0 + _ ≤ _; exact Nat.le_of_eq rfl) (hb hby at_18) (fun _ _ => ⟨rfl, eq117, (by decide : 0 + 0 ≤ _), (by decide : 0 + 0 ≤ _)⟩)
    dsimp only [Pt.U, Pt.locs, Pt.cells, Pt.slots] at X118 l118 y118 z118 st118 hQ118
    subst l118 y118 z118
    obtain ⟨rfl, Nq118, eq118⟩ := hQ118
    have N118 := Fr.app N117 Nq118
    refine EndsQ.go st118 ?_
    show EndsQ _ _ _ _ _ _ _ (T118.setTop (mkF m 21 #[.val (.int p1), .val (.int (5 : Int32)), .val (.ref a_DAY_OF_WEEK)] [(.int (own_exp (5 : Int32))), (.int (((7 : Int32) - (0 : Int32)) + (1 : Int32)))]))
    refine EndsQ.go (b := T118.setTop (mkF m 29 #[.val (.int p1), .val (.int (5 : Int32)), .val (.ref a_DAY_OF_WEEK)] [(.int (1 : Int32))])) (fun t k => ?_) ?_
    · show Steps p.tables e below (T118.setTop (mkF m 21 #[.val (.int p1), .val (.int (5 : Int32)), .val (.ref a_DAY_OF_WEEK)] [(.int (own_exp (5 : Int32))), (.int (((7 : Int32) - (0 : Int32)) + (1 : Int32)))])) _
      refine XS.icmpNo X118.here hx rfl (hb hby at_21) rfl (teq (by decide)).2 ?_
      show Steps p.tables e below (T118.setTop (mkF m 24 #[.val (.int p1), .val (.int (5 : Int32)), .val (.ref a_DAY_OF_WEEK)] [])) _
      refine XS.iconst X118.here hx rfl (hb hby at_24) ?_
      show Steps p.tables e below (T118.setTop (mkF m 25 #[.val (.int p1), .val (.int (5 : Int32)), .val (.ref a_DAY_OF_WEEK)] [(.int (1 : Int32))])) _
      refine XS.goto X118.here hx rfl (pc0 := 25) (pc' := 29) rfl (hb hby at_25) (by decide) (by decide) ?_
      show Steps p.tables e below (T118.setTop (mkF m 29 #[.val (.int p1), .val (.int (5 : Int32)), .val (.ref a_DAY_OF_WEEK)] [(.int (1 : Int32))])) _
      exact k
    refine EndsQ.retN X118 hx Bd.notSynchronized (t := .boolean) Bd.returns (by simp) (hb hby at_29) (by decide) (by decide) ?_
    show Q0 Z p1 a_SECOND a_MINUTE a_HOUR a_DAY_OF_MONTH a_MONTH a_DAY_OF_WEEK a_DAY_OF_WEEK_FROM_1 a_YEAR h0 n0 (some (.int (nar .boolean (1 : Int32)))) T118.heap _
    rw [eq118]
    exact ⟨rfl, N118⟩
  · subst hk6
    show EndsQ _ _ _ _ _ _ _ (s₁.setTop (mkF m 8 #[.val (.int p1), .val (.int (6 : Int32)), .unset] []))
    refine EndsQ.go (b := s₁.setTop (mkF m 9 #[.val (.int p1), .val (.int (6 : Int32)), .unset] [(.int (6 : Int32))])) (fun t k => ?_) ?_
    · show Steps p.tables e below (s₁.setTop (mkF m 8 #[.val (.int p1), .val (.int (6 : Int32)), .unset] [])) _
      refine XS.iloadN X0.here hx rfl (hb hby at_8) rfl ?_
      show Steps p.tables e below (s₁.setTop (mkF m 9 #[.val (.int p1), .val (.int (6 : Int32)), .unset] [(.int (6 : Int32))])) _
      exact k
    obtain ⟨_, _, ⟨T119, L119, kk119, nn119⟩, -, X119, ⟨Lc119, hQ119, l119, y119, z119⟩, st119⟩ := Jvm.LawKit.callS X0 hx (y := (⟨"com/example/sextant/sextant/FieldSizePinLaw", "pick", "(I)Lcom/example/sextant/sextant/Field;"⟩ : MethodName)) hown (mvT hZ (hw _ (List.mem_of_getElem? (i := 1) rfl))) (mvT hZ (hw _ (List.mem_of_getElem? (i := 2) rfl))) (mvT hZ (hw _ (List.mem_of_getElem? (i := 3) rfl))) (mvT hZ (hw _ (List.mem_of_getElem? (i := 4) rfl))) (by decide) (backOf (W := 0) (rm1 l Z a0 hw [] (6 : Int32) a_SECOND a_MINUTE a_HOUR a_DAY_OF_MONTH a_MONTH a_DAY_OF_WEEK a_DAY_OF_WEEK_FROM_1 a_YEAR h0 n0 Z0 S_SECOND S_MINUTE S_HOUR S_DAY_OF_MONTH S_MONTH S_DAY_OF_WEEK S_DAY_OF_WEEK_FROM_1 S_YEAR) hZ (hw _ (List.mem_of_getElem? (i := 4) rfl)) (hw _ (List.mem_of_getElem? (i := 3) rfl)) (by decide) (by decide)) (g := (mkF m 9 #[.val (.int p1), .val (.int (6 : Int32)), .unset] [(.int (6 : Int32))])) rfl (by rw [hml]; rfl) (argsL := [(.int (6 : Int32))]) (rest := []) (lenOf pd_0 rfl) rfl (by show 2 * 0 + _ ≤ _; exact Nat.le_of_eq rfl) (hb hby at_9) (fun _ _ => ⟨rfl, e0, (by decide : 0 + 0 ≤ _), (by decide : 0 + 0 ≤ _)⟩)
    dsimp only [Pt.U, Pt.locs, Pt.cells, Pt.slots] at X119 l119 y119 z119 st119 hQ119
    subst l119 y119 z119
    obtain ⟨rfl, Nq119, eq119⟩ := hQ119
    have N119 := Fr.app N0 Nq119
    refine EndsQ.go st119 ?_
    show EndsQ _ _ _ _ _ _ _ (T119.setTop (mkF m 12 #[.val (.int p1), .val (.int (6 : Int32)), .unset] [(.ref (own_pick (6 : Int32) a_SECOND a_MINUTE a_HOUR a_DAY_OF_MONTH a_MONTH a_DAY_OF_WEEK a_DAY_OF_WEEK_FROM_1 a_YEAR))]))
    rw [(rfl : (own_pick (6 : Int32) a_SECOND a_MINUTE a_HOUR a_DAY_OF_MONTH a_MONTH a_DAY_OF_WEEK a_DAY_OF_WEEK_FROM_1 a_YEAR) = a_DAY_OF_WEEK_FROM_1)]
    show EndsQ _ _ _ _ _ _ _ (T119.setTop (mkF m 12 #[.val (.int p1), .val (.int (6 : Int32)), .unset] [(.ref a_DAY_OF_WEEK_FROM_1)]))
    refine EndsQ.go (b := T119.setTop (mkF m 14 #[.val (.int p1), .val (.int (6 : Int32)), .val (.ref a_DAY_OF_WEEK_FROM_1)] [(.ref a_DAY_OF_WEEK_FROM_1)])) (fun t k => ?_) ?_
    · show Steps p.tables e below (T119.setTop (mkF m 12 #[.val (.int p1), .val (.int (6 : Int32)), .unset] [(.ref a_DAY_OF_WEEK_FROM_1)])) _
      refine XS.astoreN X119.here hx rfl (hb hby at_12) rfl rfl (l' := #[.val (.int p1), .val (.int (6 : Int32)), .val (.ref a_DAY_OF_WEEK_FROM_1)]) rfl ?_
      show Steps p.tables e below (T119.setTop (mkF m 13 #[.val (.int p1), .val (.int (6 : Int32)), .val (.ref a_DAY_OF_WEEK_FROM_1)] [])) _
      refine XS.aloadN X119.here hx rfl (hb hby at_13) rfl rfl ?_
      show Steps p.tables e below (T119.setTop (mkF m 14 #[.val (.int p1), .val (.int (6 : Int32)), .val (.ref a_DAY_OF_WEEK_FROM_1)] [(.ref a_DAY_OF_WEEK_FROM_1)])) _
      exact k
    obtain ⟨cq120, kq120, qa120, qb120, qc120⟩ := isOf hZ eq119 E_DAY_OF_WEEK_FROM_1
    obtain ⟨_, _, ⟨T120, L120, kk120, nn120⟩, -, X120, ⟨Lc120, hQ120, l120, y120, z120⟩, st120⟩ := X119.virtualBack hx (y := (⟨"com/example/sextant/sextant/Field", "size", "()I"⟩ : MethodName)) (z := (⟨"com/example/sextant/sextant/Field", "size", "()I"⟩ : MethodName)) hown (mvT hZ (hw _ (List.mem_of_getElem? (i := 8) rfl))) (mvT hZ (hw _ (List.mem_of_getElem? (i := 9) rfl))) (notFace_of_selects (args := #[]) (mvT hZ (hw _ (List.mem_of_getElem? (i := 11) rfl)))) (mvT hZ (hw _ (List.mem_of_getElem? (i := 11) rfl))) (mvT hZ (hw _ (List.mem_of_getElem? (i := 10) rfl))) (by decide) (backOf (W := 0) (rm2 l Z a0 hw [] a_DAY_OF_WEEK_FROM_1 (7 : Int32) (1 : Int32) h0 n0 Z0 F_DAY_OF_WEEK_FROM_1_max F_DAY_OF_WEEK_FROM_1_min) hZ (hw _ (List.mem_of_getElem? (i := 12) rfl)) (hw _ (List.mem_of_getElem? (i := 6) rfl)) (by decide) (by decide)) qa120 qc120 (g := (mkF m 14 #[.val (.int p1), .val (.int (6 : Int32)), .val (.ref a_DAY_OF_WEEK_FROM_1)] [(.ref a_DAY_OF_WEEK_FROM_1)])) rfl (by rw [hml]; rfl) (Steps.refl _) (argsL := []) (rest := []) (lenOf pd_1 rfl) rfl (by show 2 * 0 + _ ≤ _; exact Nat.le_of_eq rfl) (hb hby at_14) (fun _ _ => ⟨rfl, eq119, (by decide : 0 + 0 ≤ _), (by decide : 0 + 0 ≤ _)⟩)
    dsimp only [Pt.U, Pt.locs, Pt.cells, Pt.slots] at X120 l120 y120 z120 st120 hQ120
    subst l120 y120 z120
    obtain ⟨rfl, Nq120, eq120⟩ := hQ120
    have N120 := Fr.app N119 Nq120
    refine EndsQ.go (fun t k => st120.trans k) ?_
    show EndsQ _ _ _ _ _ _ _ (T120.setTop (mkF m 17 #[.val (.int p1), .val (.int (6 : Int32)), .val (.ref a_DAY_OF_WEEK_FROM_1)] [(.int (((7 : Int32) - (1 : Int32)) + (1 : Int32)))]))
    refine EndsQ.go (b := T120.setTop (mkF m 18 #[.val (.int p1), .val (.int (6 : Int32)), .val (.ref a_DAY_OF_WEEK_FROM_1)] [(.int (6 : Int32)), (.int (((7 : Int32) - (1 : Int32)) + (1 : Int32)))])) (fun t k => ?_) ?_
    · show Steps p.tables e below (T120.setTop (mkF m 17 #[.val (.int p1), .val (.int (6 : Int32)), .val (.ref a_DAY_OF_WEEK_FROM_1)] [(.int (((7 : Int32) - (1 : Int32)) + (1 : Int32)))])) _
      refine XS.iloadN X120.here hx rfl (hb hby at_17) rfl ?_
      show Steps p.tables e below (T120.setTop (mkF m 18 #[.val (.int p1), .val (.int (6 : Int32)), .val (.ref a_DAY_OF_WEEK_FROM_1)] [(.int (6 : Int32)), (.int (((7 : Int32) - (1 : Int32)) + (1 : Int32)))])) _
      exact k
    obtain ⟨_, _, ⟨T121, L121, kk121, nn121⟩, -, X121, ⟨Lc121, hQ121, l121, y121, z121⟩, st121⟩ := Jvm.LawKit.callS X120 hx (y := (⟨"com/example/sextant/sextant/FieldSizePinLaw", "expected", "(I)I"⟩ : MethodName)) hown (mvT hZ (hw _ (List.mem_of_getElem? (i := 17) rfl))) (mvT hZ (hw _ (List.mem_of_getElem? (i := 18) rfl))) (mvT hZ (hw _ (List.mem_of_getElem? (i := 3) rfl))) (mvT hZ (hw _ (List.mem_of_getElem? (i := 19) rfl))) (by decide) (backOf (W := 1) (rm3 l Z a0 hw [] (6 : Int32) h0 n0 Z0 ) hZ (hw _ (List.mem_of_getElem? (i := 19) rfl)) (hw _ (List.mem_of_getElem? (i := 3) rfl)) (by decide) (by decide)) (g := (mkF m 18 #[.val (.int p1), .val (.int (6 : Int32)), .val (.ref a_DAY_OF_WEEK_FROM_1)] [(.int (6 : Int32)), (.int (((7 : Int32) - (1 : Int32)) + (1 : Int32)))])) rfl (by rw [hml]; rfl) (argsL := [(.int (6 : Int32))]) (rest := [(.int (((7 : Int32) - (1 : Int32)) + (1 : Int32)))]) (lenOf pd_2 rfl) rfl (by show 2 * 0 + _ ≤ _; exact Nat.le_of_eq rfl) (hb hby at_18) (fun _ _ => ⟨rfl, eq120, (by decide : 0 + 0 ≤ _), (by decide : 0 + 0 ≤ _)⟩)
    dsimp only [Pt.U, Pt.locs, Pt.cells, Pt.slots] at X121 l121 y121 z121 st121 hQ121
    subst l121 y121 z121
    obtain ⟨rfl, Nq121, eq121⟩ := hQ121
    have N121 := Fr.app N120 Nq121
    refine EndsQ.go st121 ?_
    show EndsQ _ _ _ _ _ _ _ (T121.setTop (mkF m 21 #[.val (.int p1), .val (.int (6 : Int32)), .val (.ref a_DAY_OF_WEEK_FROM_1)] [(.int (own_exp (6 : Int32))), (.int (((7 : Int32) - (1 : Int32)) + (1 : Int32)))]))
    refine EndsQ.go (b := T121.setTop (mkF m 29 #[.val (.int p1), .val (.int (6 : Int32)), .val (.ref a_DAY_OF_WEEK_FROM_1)] [(.int (1 : Int32))])) (fun t k => ?_) ?_
    · show Steps p.tables e below (T121.setTop (mkF m 21 #[.val (.int p1), .val (.int (6 : Int32)), .val (.ref a_DAY_OF_WEEK_FROM_1)] [(.int (own_exp (6 : Int32))), (.int (((7 : Int32) - (1 : Int32)) + (1 : Int32)))])) _
      refine XS.icmpNo X121.here hx rfl (hb hby at_21) rfl (teq (by decide)).2 ?_
      show Steps p.tables e below (T121.setTop (mkF m 24 #[.val (.int p1), .val (.int (6 : Int32)), .val (.ref a_DAY_OF_WEEK_FROM_1)] [])) _
      refine XS.iconst X121.here hx rfl (hb hby at_24) ?_
      show Steps p.tables e below (T121.setTop (mkF m 25 #[.val (.int p1), .val (.int (6 : Int32)), .val (.ref a_DAY_OF_WEEK_FROM_1)] [(.int (1 : Int32))])) _
      refine XS.goto X121.here hx rfl (pc0 := 25) (pc' := 29) rfl (hb hby at_25) (by decide) (by decide) ?_
      show Steps p.tables e below (T121.setTop (mkF m 29 #[.val (.int p1), .val (.int (6 : Int32)), .val (.ref a_DAY_OF_WEEK_FROM_1)] [(.int (1 : Int32))])) _
      exact k
    refine EndsQ.retN X121 hx Bd.notSynchronized (t := .boolean) Bd.returns (by simp) (hb hby at_29) (by decide) (by decide) ?_
    show Q0 Z p1 a_SECOND a_MINUTE a_HOUR a_DAY_OF_MONTH a_MONTH a_DAY_OF_WEEK a_DAY_OF_WEEK_FROM_1 a_YEAR h0 n0 (some (.int (nar .boolean (1 : Int32)))) T121.heap _
    rw [eq121]
    exact ⟨rfl, N121⟩
  · subst hk7
    show EndsQ _ _ _ _ _ _ _ (s₁.setTop (mkF m 8 #[.val (.int p1), .val (.int (7 : Int32)), .unset] []))
    refine EndsQ.go (b := s₁.setTop (mkF m 9 #[.val (.int p1), .val (.int (7 : Int32)), .unset] [(.int (7 : Int32))])) (fun t k => ?_) ?_
    · show Steps p.tables e below (s₁.setTop (mkF m 8 #[.val (.int p1), .val (.int (7 : Int32)), .unset] [])) _
      refine XS.iloadN X0.here hx rfl (hb hby at_8) rfl ?_
      show Steps p.tables e below (s₁.setTop (mkF m 9 #[.val (.int p1), .val (.int (7 : Int32)), .unset] [(.int (7 : Int32))])) _
      exact k
    obtain ⟨_, _, ⟨T122, L122, kk122, nn122⟩, -, X122, ⟨Lc122, hQ122, l122, y122, z122⟩, st122⟩ := Jvm.LawKit.callS X0 hx (y := (⟨"com/example/sextant/sextant/FieldSizePinLaw", "pick", "(I)Lcom/example/sextant/sextant/Field;"⟩ : MethodName)) hown (mvT hZ (hw _ (List.mem_of_getElem? (i := 1) rfl))) (mvT hZ (hw _ (List.mem_of_getElem? (i := 2) rfl))) (mvT hZ (hw _ (List.mem_of_getElem? (i := 3) rfl))) (mvT hZ (hw _ (List.mem_of_getElem? (i := 4) rfl))) (by decide) (backOf (W := 0) (rm1 l Z a0 hw [] (7 : Int32) a_SECOND a_MINUTE a_HOUR a_DAY_OF_MONTH a_MONTH a_DAY_OF_WEEK a_DAY_OF_WEEK_FROM_1 a_YEAR h0 n0 Z0 S_SECOND S_MINUTE S_HOUR S_DAY_OF_MONTH S_MONTH S_DAY_OF_WEEK S_DAY_OF_WEEK_FROM_1 S_YEAR) hZ (hw _ (List.mem_of_getElem? (i := 4) rfl)) (hw _ (List.mem_of_getElem? (i := 3) rfl)) (by decide) (by decide)) (g := (mkF m 9 #[.val (.int p1), .val (.int (7 : Int32)), .unset] [(.int (7 : Int32))])) rfl (by rw [hml]; rfl) (argsL := [(.int (7 : Int32))]) (rest := []) (lenOf pd_0 rfl) rfl (by show 2 * 0 + _ ≤ _; exact Nat.le_of_eq rfl) (hb hby at_9) (fun _ _ => ⟨rfl, e0, (by decide : 0 + 0 ≤ _), (by decide : 0 + 0 ≤ _)⟩)
    dsimp only [Pt.U, Pt.locs, Pt.cells, Pt.slots] at X122 l122 y122 z122 st122 hQ122
    subst l122 y122 z122
    obtain ⟨rfl, Nq122, eq122⟩ := hQ122
    have N122 := Fr.app N0 Nq122
    refine EndsQ.go st122 ?_
    show EndsQ _ _ _ _ _ _ _ (T122.setTop (mkF m 12 #[.val (.int p1), .val (.int (7 : Int32)), .unset] [(.ref (own_pick (7 : Int32) a_SECOND a_MINUTE a_HOUR a_DAY_OF_MONTH a_MONTH a_DAY_OF_WEEK a_DAY_OF_WEEK_FROM_1 a_YEAR))]))
    rw [(rfl : (own_pick (7 : Int32) a_SECOND a_MINUTE a_HOUR a_DAY_OF_MONTH a_MONTH a_DAY_OF_WEEK a_DAY_OF_WEEK_FROM_1 a_YEAR) = a_YEAR)]
    show EndsQ _ _ _ _ _ _ _ (T122.setTop (mkF m 12 #[.val (.int p1), .val (.int (7 : Int32)), .unset] [(.ref a_YEAR)]))
    refine EndsQ.go (b := T122.setTop (mkF m 14 #[.val (.int p1), .val (.int (7 : Int32)), .val (.ref a_YEAR)] [(.ref a_YEAR)])) (fun t k => ?_) ?_
    · show Steps p.tables e below (T122.setTop (mkF m 12 #[.val (.int p1), .val (.int (7 : Int32)), .unset] [(.ref a_YEAR)])) _
      refine XS.astoreN X122.here hx rfl (hb hby at_12) rfl rfl (l' := #[.val (.int p1), .val (.int (7 : Int32)), .val (.ref a_YEAR)]) rfl ?_
      show Steps p.tables e below (T122.setTop (mkF m 13 #[.val (.int p1), .val (.int (7 : Int32)), .val (.ref a_YEAR)] [])) _
      refine XS.aloadN X122.here hx rfl (hb hby at_13) rfl rfl ?_
      show Steps p.tables e below (T122.setTop (mkF m 14 #[.val (.int p1), .val (.int (7 : Int32)), .val (.ref a_YEAR)] [(.ref a_YEAR)])) _
      exact k
    obtain ⟨cq123, kq123, qa123, qb123, qc123⟩ := isOf hZ eq122 E_YEAR
    obtain ⟨_, _, ⟨T123, L123, kk123, nn123⟩, -, X123, ⟨Lc123, hQ123, l123, y123, z123⟩, st123⟩ := X122.virtualBack hx (y := (⟨"com/example/sextant/sextant/Field", "size", "()I"⟩ : MethodName)) (z := (⟨"com/example/sextant/sextant/Field", "size", "()I"⟩ : MethodName)) hown (mvT hZ (hw _ (List.mem_of_getElem? (i := 8) rfl))) (mvT hZ (hw _ (List.mem_of_getElem? (i := 9) rfl))) (notFace_of_selects (args := #[]) (mvT hZ (hw _ (List.mem_of_getElem? (i := 11) rfl)))) (mvT hZ (hw _ (List.mem_of_getElem? (i := 11) rfl))) (mvT hZ (hw _ (List.mem_of_getElem? (i := 10) rfl))) (by decide) (backOf (W := 0) (rm2 l Z a0 hw [] a_YEAR (2199 : Int32) (1970 : Int32) h0 n0 Z0 F_YEAR_max F_YEAR_min) hZ (hw _ (List.mem_of_getElem? (i := 12) rfl)) (hw _ (List.mem_of_getElem? (i := 6) rfl)) (by decide) (by decide)) qa123 qc123 (g := (mkF m 14 #[.val (.int p1), .val (.int (7 : Int32)), .val (.ref a_YEAR)] [(.ref a_YEAR)])) rfl (by rw [hml]; rfl) (Steps.refl _) (argsL := []) (rest := []) (lenOf pd_1 rfl) rfl (by show 2 * 0 + _ ≤ _; exact Nat.le_of_eq rfl) (hb hby at_14) (fun _ _ => ⟨rfl, eq122, (by decide : 0 + 0 ≤ _), (by decide : 0 + 0 ≤ _)⟩)
    dsimp only [Pt.U, Pt.locs, Pt.cells, Pt.slots] at X123 l123 y123 z123 st123 hQ123
    subst l123 y123 z123
    obtain ⟨rfl, Nq123, eq123⟩ := hQ123
    have N123 := Fr.app N122 Nq123
    refine EndsQ.go (fun t k => st123.trans k) ?_
    show EndsQ _ _ _ _ _ _ _ (T123.setTop (mkF m 17 #[.val (.int p1), .val (.int (7 : Int32)), .val (.ref a_YEAR)] [(.int (((2199 : Int32) - (1970 : Int32)) + (1 : Int32)))]))
    refine EndsQ.go (b := T123.setTop (mkF m 18 #[.val (.int p1), .val (.int (7 : Int32)), .val (.ref a_YEAR)] [(.int (7 : Int32)), (.int (((2199 : Int32) - (1970 : Int32)) + (1 : Int32)))])) (fun t k => ?_) ?_
    · show Steps p.tables e below (T123.setTop (mkF m 17 #[.val (.int p1), .val (.int (7 : Int32)), .val (.ref a_YEAR)] [(.int (((2199 : Int32) - (1970 : Int32)) + (1 : Int32)))])) _
      refine XS.iloadN X123.here hx rfl (hb hby at_17) rfl ?_
      show Steps p.tables e below (T123.setTop (mkF m 18 #[.val (.int p1), .val (.int (7 : Int32)), .val (.ref a_YEAR)] [(.int (7 : Int32)), (.int (((2199 : Int32) - (1970 : Int32)) + (1 : Int32)))])) _
      exact k
    obtain ⟨_, _, ⟨T124, L124, kk124, nn124⟩, -, X124, ⟨Lc124, hQ124, l124, y124, z124⟩, st124⟩ := Jvm.LawKit.callS X123 hx (y := (⟨"com/example/sextant/sextant/FieldSizePinLaw", "expected", "(I)I"⟩ : MethodName)) hown (mvT hZ (hw _ (List.mem_of_getElem? (i := 17) rfl))) (mvT hZ (hw _ (List.mem_of_getElem? (i := 18) rfl))) (mvT hZ (hw _ (List.mem_of_getElem? (i := 3) rfl))) (mvT hZ (hw _ (List.mem_of_getElem? (i := 19) rfl))) (by decide) (backOf (W := 1) (rm3 l Z a0 hw [] (7 : Int32) h0 n0 Z0 ) hZ (hw _ (List.mem_of_getElem? (i := 19) rfl)) (hw _ (List.mem_of_getElem? (i := 3) rfl)) (by decide) (by decide)) (g := (mkF m 18 #[.val (.int p1), .val (.int (7 : Int32)), .val (.ref a_YEAR)] [(.int (7 : Int32)), (.int (((2199 : Int32) - (1970 : Int32)) + (1 : Int32)))])) rfl (by rw [hml]; rfl) (argsL := [(.int (7 : Int32))]) (rest := [(.int (((2199 : Int32) - (1970 : Int32)) + (1 : Int32)))]) (lenOf pd_2 rfl) rfl (by show 2 * 0 + _ ≤ _; exact Nat.le_of_eq rfl) (hb hby at_18) (fun _ _ => ⟨rfl, eq123, (by decide : 0 + 0 ≤ _), (by decide : 0 + 0 ≤ _)⟩)
    dsimp only [Pt.U, Pt.locs, Pt.cells, Pt.slots] at X124 l124 y124 z124 st124 hQ124
    subst l124 y124 z124
    obtain ⟨rfl, Nq124, eq124⟩ := hQ124
    have N124 := Fr.app N123 Nq124
    refine EndsQ.go st124 ?_
    show EndsQ _ _ _ _ _ _ _ (T124.setTop (mkF m 21 #[.val (.int p1), .val (.int (7 : Int32)), .val (.ref a_YEAR)] [(.int (own_exp (7 : Int32))), (.int (((2199 : Int32) - (1970 : Int32)) + (1 : Int32)))]))
    refine EndsQ.go (b := T124.setTop (mkF m 29 #[.val (.int p1), .val (.int (7 : Int32)), .val (.ref a_YEAR)] [(.int (1 : Int32))])) (fun t k => ?_) ?_
    · show Steps p.tables e below (T124.setTop (mkF m 21 #[.val (.int p1), .val (.int (7 : Int32)), .val (.ref a_YEAR)] [(.int (own_exp (7 : Int32))), (.int (((2199 : Int32) - (1970 : Int32)) + (1 : Int32)))])) _
      refine XS.icmpNo X124.here hx rfl (hb hby at_21) rfl (teq (by decide)).2 ?_
      show Steps p.tables e below (T124.setTop (mkF m 24 #[.val (.int p1), .val (.int (7 : Int32)), .val (.ref a_YEAR)] [])) _
      refine XS.iconst X124.here hx rfl (hb hby at_24) ?_
      show Steps p.tables e below (T124.setTop (mkF m 25 #[.val (.int p1), .val (.int (7 : Int32)), .val (.ref a_YEAR)] [(.int (1 : Int32))])) _
      refine XS.goto X124.here hx rfl (pc0 := 25) (pc' := 29) rfl (hb hby at_25) (by decide) (by decide) ?_
      show Steps p.tables e below (T124.setTop (mkF m 29 #[.val (.int p1), .val (.int (7 : Int32)), .val (.ref a_YEAR)] [(.int (1 : Int32))])) _
      exact k
    refine EndsQ.retN X124 hx Bd.notSynchronized (t := .boolean) Bd.returns (by simp) (hb hby at_29) (by decide) (by decide) ?_
    show Q0 Z p1 a_SECOND a_MINUTE a_HOUR a_DAY_OF_MONTH a_MONTH a_DAY_OF_WEEK a_DAY_OF_WEEK_FROM_1 a_YEAR h0 n0 (some (.int (nar .boolean (1 : Int32)))) T124.heap _
    rw [eq124]
    exact ⟨rfl, N124⟩
set_option maxRecDepth 65536 in
set_option maxHeartbeats 40000000 in
theorem comes_1 {Post : Tables → Env → Array Value → State → Outcome → State → Prop} (hpost : ∀ tb e args s v u, (limb_1_1.after args s (.returned v) u = true ∧ limb_1_2.after args s (.returned v) u = true ∧ True) → FrameEnd s (.returned v) u (Jvm.fieldLocs frame_1_writes args s ++ Jvm.arrayLocs frame_1_arrays args s ++ Jvm.staticLocs frame_1_statics s) 0 0 → Post tb e args s (.returned v) u) :
    ArmFor flags0 classFile x code maxLocals ret World_1 tables_1 room_1 Calls_1 rest_1 Pre_1 Post := by
  intro l hfl _ _ p e ha hc hk s m args below hf hA hF happ hP
  obtain ⟨hcalls, hrest, hpre⟩ := hP
  obtain ⟨-, -, -, hnamed, -, -, -, hat⟩ := (Spec.applies_iff hf).mp happ
  obtain ⟨hg, hn⟩ := and_e (Cond.before_iff.mp (show (Jvm.Cond.and given_1 narrow_1).before args s = true from hpre))
  obtain ⟨g1a, g1b⟩ := and_e hg
  obtain ⟨w0, rfl⟩ : ∃ w0 : Value, args = #[w0] := by
    have hs : args.size = 1 := by simpa [Cond.value, given_1] using g1a
    obtain ⟨L⟩ := args
    match L, hs with
    | [w0], _ => exact ⟨w0, rfl⟩
  have hw := fun d (hd : d ∈ tables_1) => atoms_spec (ws := Jvm.Cond.code x code maxLocals ret :: tables_1) hat d (List.mem_cons_of_mem _ hd)
  have hfit : Fit s := fun {y c} hc i hi => by
    obtain ⟨ha, rfl⟩ := Array.getElem?_eq_some_iff.mp hc
    have q := List.all_eq_true.mp ((Array.all_eq_true_iff_forall_mem.mp hF) _ (Array.getElem_mem ha)) i (List.mem_range.mpr hi)
    simpa [Array.getElem?_eq_getElem hi] using q
  obtain ⟨i0, ei0⟩ := is_v g1b
  obtain rfl : w0 = (.int i0) := Option.some.inj ei0
  obtain ⟨n0, hn0⟩ := and_e hn
  obtain ⟨n1, hn1⟩ := and_e hn0
  obtain ⟨n2, hn2⟩ := and_e hn1
  obtain ⟨n3, hn3⟩ := and_e hn2
  obtain ⟨n4, hn4⟩ := and_e hn3
  obtain ⟨n5, hn5⟩ := and_e hn4
  obtain ⟨n6, hn6⟩ := and_e hn5
  obtain ⟨n7, hn7⟩ := and_e hn6
  obtain ⟨n8, hn8⟩ := and_e hn7
  obtain ⟨n9, hn9⟩ := and_e hn8
  obtain ⟨n10, hn10⟩ := and_e hn9
  obtain ⟨n11, hn11⟩ := and_e hn10
  obtain ⟨n12, hn12⟩ := and_e hn11
  obtain ⟨n13, hn13⟩ := and_e hn12
  obtain ⟨n14, hn14⟩ := and_e hn13
  obtain ⟨n15, hn15⟩ := and_e hn14
  obtain ⟨n16, hn16⟩ := and_e hn15
  obtain ⟨n17, hn17⟩ := and_e hn16
  obtain ⟨n18, hn18⟩ := and_e hn17
  obtain ⟨n19, hn19⟩ := and_e hn18
  obtain ⟨n20, hn20⟩ := and_e hn19
  obtain ⟨n21, hn21⟩ := and_e hn20
  obtain ⟨n22, hn22⟩ := and_e hn21
  obtain ⟨a_SECOND, ev_SECOND⟩ := exa_v n0
  have X_SECOND := Exa.start ev_SECOND n0
  have S_SECOND := Sta.start ev_SECOND (Or.inr ⟨(hw _ (List.mem_of_getElem? (i := 6) rfl)), (hw _ (List.mem_of_getElem? (i := 7) rfl))⟩)
  obtain ⟨a_DAY_OF_MONTH, ev_DAY_OF_MONTH⟩ := exa_v n3
  have X_DAY_OF_MONTH := Exa.start ev_DAY_OF_MONTH n3
  have S_DAY_OF_MONTH := Sta.start ev_DAY_OF_MONTH (Or.inr ⟨(hw _ (List.mem_of_getElem? (i := 6) rfl)), (hw _ (List.mem_of_getElem? (i := 21) rfl))⟩)
  obtain ⟨a_DAY_OF_WEEK_FROM_1, ev_DAY_OF_WEEK_FROM_1⟩ := exa_v n6
  have X_DAY_OF_WEEK_FROM_1 := Exa.start ev_DAY_OF_WEEK_FROM_1 n6
  have S_DAY_OF_WEEK_FROM_1 := Sta.start ev_DAY_OF_WEEK_FROM_1 (Or.inr ⟨(hw _ (List.mem_of_getElem? (i := 6) rfl)), (hw _ (List.mem_of_getElem? (i := 23) rfl))⟩)
  obtain ⟨a_YEAR, ev_YEAR⟩ := exa_v n9
  have X_YEAR := Exa.start ev_YEAR n9
  have S_YEAR := Sta.start ev_YEAR (Or.inr ⟨(hw _ (List.mem_of_getElem? (i := 6) rfl)), (hw _ (List.mem_of_getElem? (i := 25) rfl))⟩)
  obtain ⟨a_HOUR, ev_HOUR⟩ := exa_v n12
  have X_HOUR := Exa.start ev_HOUR n12
  have S_HOUR := Sta.start ev_HOUR (Or.inr ⟨(hw _ (List.mem_of_getElem? (i := 6) rfl)), (hw _ (List.mem_of_getElem? (i := 27) rfl))⟩)
  obtain ⟨a_MINUTE, ev_MINUTE⟩ := exa_v n15
  have X_MINUTE := Exa.start ev_MINUTE n15
  have S_MINUTE := Sta.start ev_MINUTE (Or.inr ⟨(hw _ (List.mem_of_getElem? (i := 6) rfl)), (hw _ (List.mem_of_getElem? (i := 29) rfl))⟩)
  obtain ⟨a_MONTH, ev_MONTH⟩ := exa_v n18
  have X_MONTH := Exa.start ev_MONTH n18
  have S_MONTH := Sta.start ev_MONTH (Or.inr ⟨(hw _ (List.mem_of_getElem? (i := 6) rfl)), (hw _ (List.mem_of_getElem? (i := 31) rfl))⟩)
  obtain ⟨a_DAY_OF_WEEK, ev_DAY_OF_WEEK⟩ := exa_v n21
  have X_DAY_OF_WEEK := Exa.start ev_DAY_OF_WEEK n21
  have S_DAY_OF_WEEK := Sta.start ev_DAY_OF_WEEK (Or.inr ⟨(hw _ (List.mem_of_getElem? (i := 6) rfl)), (hw _ (List.mem_of_getElem? (i := 33) rfl))⟩)
  have F_SECOND_max := Fld.start ((fld_at ev_SECOND).symm.trans (own_eqI n1))
  have F_SECOND_min := Fld.start ((fld_at ev_SECOND).symm.trans (own_eqI n2))
  have F_DAY_OF_MONTH_max := Fld.start ((fld_at ev_DAY_OF_MONTH).symm.trans (own_eqI n4))
  have F_DAY_OF_MONTH_min := Fld.start ((fld_at ev_DAY_OF_MONTH).symm.trans (own_eqI n5))
  have F_DAY_OF_WEEK_FROM_1_max := Fld.start ((fld_at ev_DAY_OF_WEEK_FROM_1).symm.trans (own_eqI n7))
  have F_DAY_OF_WEEK_FROM_1_min := Fld.start ((fld_at ev_DAY_OF_WEEK_FROM_1).symm.trans (own_eqI n8))
  have F_YEAR_max := Fld.start ((fld_at ev_YEAR).symm.trans (own_eqI n10))
  have F_YEAR_min := Fld.start ((fld_at ev_YEAR).symm.trans (own_eqI n11))
  have F_HOUR_max := Fld.start ((fld_at ev_HOUR).symm.trans (own_eqI n13))
  have F_HOUR_min := Fld.start ((fld_at ev_HOUR).symm.trans (own_eqI n14))
  have F_MINUTE_max := Fld.start ((fld_at ev_MINUTE).symm.trans (own_eqI n16))
  have F_MINUTE_min := Fld.start ((fld_at ev_MINUTE).symm.trans (own_eqI n17))
  have F_MONTH_max := Fld.start ((fld_at ev_MONTH).symm.trans (own_eqI n19))
  have F_MONTH_min := Fld.start ((fld_at ev_MONTH).symm.trans (own_eqI n20))
  have F_DAY_OF_WEEK_max := Fld.start ((fld_at ev_DAY_OF_WEEK).symm.trans (own_eqI n22))
  have F_DAY_OF_WEEK_min := Fld.start ((fld_at ev_DAY_OF_WEEK).symm.trans (own_eqI hn22))
  obtain ⟨n, o, h1, h2, h3, _, L, rfl, ⟨rfl, N⟩, hq⟩ := rm0 l s _ hw tables_1 i0 a_SECOND a_MINUTE a_HOUR a_DAY_OF_MONTH a_MONTH a_DAY_OF_WEEK a_DAY_OF_WEEK_FROM_1 a_YEAR s.heap s.heap.size (Nat.le_refl _) S_SECOND S_MINUTE S_HOUR S_DAY_OF_MONTH S_MONTH S_DAY_OF_WEEK S_DAY_OF_WEEK_FROM_1 S_YEAR X_SECOND F_SECOND_max F_SECOND_min X_MINUTE F_MINUTE_max F_MINUTE_min X_HOUR F_HOUR_max F_HOUR_min X_DAY_OF_MONTH F_DAY_OF_MONTH_max F_DAY_OF_MONTH_min X_MONTH F_MONTH_max F_MONTH_min X_DAY_OF_WEEK F_DAY_OF_WEEK_max F_DAY_OF_WEEK_min X_DAY_OF_WEEK_FROM_1 F_DAY_OF_WEEK_FROM_1_max F_DAY_OF_WEEK_FROM_1_min X_YEAR F_YEAR_max F_YEAR_min p e ha hc hk s m _ below hf ((Spec.applies_iff_loose hf).mp happ).1 ⟨rfl, State.Warmed39.refl s, rfl⟩ trivial
  refine ⟨n, _, h1, h2, h3, hpost _ _ _ _ _ _ ⟨Cond.after_iff.mpr rfl, Cond.after_iff.mpr (eq_i res_at (Term.int_eval (1)) rfl), trivial⟩ ⟨hq.1, hq.2.1, (hq.2.2.sift fun y hy => Or.inr (N y hy)).mono (by decide) (by decide)⟩⟩
theorem main_1_1 : Claimed_1_1 := comes_1 fun _ _ _ _ _ _ h hF => ⟨h.1, hF⟩
theorem main_1_2 : Claimed_1_2 := comes_1 fun _ _ _ _ _ _ h hF => ⟨h.2.1, hF⟩
end Jvm.Pilot.@@N@@
namespace Jvm.Pilot.@@N@@
open Jvm Jvm.ClassFile Sem Op Lib Jvm.Free Jvm.Stand Jvm.Pilot.@@N@@.Jvm.D
/-! MADE BY PROGRAM (witnessworld.py) out of the Statement's table words and the real class files: 12 classes; the members and pool entries that the words name. The judged class is class 1, her method 3. -/
namespace start1
open Jvm.ClassFile
def u (s : String) : CpInfo := .utf8 (stringToUtf16 s)
/-- a pool by its gaps: so many unusable entries, then the entry; so many at the end -/
def gap : Nat → List CpInfo → List CpInfo
  | 0, r => r
  | n + 1, r => .unusable :: gap n r
def poolList (es : List (Nat × CpInfo)) (last : Nat) : List CpInfo := es.foldr (fun e r => gap e.1 (e.2 :: r)) (gap last [])
def pool (es : List (Nat × CpInfo)) (last : Nat) : Array CpInfo := ⟨poolList es last⟩
def fileOf (pool : Array CpInfo) (this : Nat) (attrs : Array Attribute := #[]) (ms : Array MethodInfo := #[]) (fl : Nat := 33) (sup : Nat := 0) (ifs : Array Nat := #[]) (fds : Array FieldInfo := #[]) : ClassFile where
  minorVersion := 0
  majorVersion := 65
  constantPool := pool
  accessFlags := fl
  thisClass := this
  superClass := sup
  interfaces := ifs
  fields := fds
  methods := ms
  attributes := attrs
def plain (name : String) (sup : Option ClassId) : Class where
  name := name
  kind := .ordinary
  loader := none
  accessFlags := 33
  super := sup
  interfaces := #[]
  cf := none
  fields := #[]
  methods := #[]
  instanceTypes := #[]
  staticTypes := #[]
  resolved := #[]
  callSites := []
  init := .initialized
  statics := none
  mirror := none

def pool0 : Array CpInfo := pool [(5, u "<init>"), (0, u "()V"), (1, .class_ 10), (1, u "java/lang/Object")] 113

def k0m0 : Method := { name := "<init>", desc := "()V", sig := { parameters := [], returnType := none }, accessFlags := 1, code := none }
/-- java/lang/Object -/
def k0 : Class := { plain "java/lang/Object" none with
  accessFlags := 33
  interfaces := #[]
  cf := some (fileOf pool0 8 #[] #[{ accessFlags := 1, nameIndex := 5, descriptorIndex := 6, attributes := #[] }] 33 0 #[] #[])
  fields := #[]
  methods := #[k0m0]
  instanceTypes := #[]
  staticTypes := #[]
  resolved := Array.replicate 124 none
  statics := none }

def pool1 : Array CpInfo := pool [(2, .class_ 4), (1, u "java/lang/Object"), (0, u "<init>"), (0, u "()V"), (0, .fieldref 8 9), (0, .class_ 10), (0, .nameAndType 11 12), (0, u "com/example/sextant/sextant/Field"), (0, u "SECOND"), (0, u "Lcom/example/sextant/sextant/Field;"), (0, .fieldref 8 14), (0, .nameAndType 15 12), (0, u "MINUTE"), (0, .fieldref 8 17), (0, .nameAndType 18 12), (0, u "HOUR"), (0, .fieldref 8 20), (0, .nameAndType 21 12), (0, u "DAY_OF_MONTH"), (0, .fieldref 8 23), (0, .nameAndType 24 12), (0, u "MONTH"), (0, .fieldref 8 26), (0, .nameAndType 27 12), (0, u "DAY_OF_WEEK"), (0, .fieldref 8 29), (0, .nameAndType 30 12), (0, u "DAY_OF_WEEK_FROM_1"), (0, .fieldref 8 32), (0, .nameAndType 33 12), (0, u "YEAR"), (0, .integer 2147483647), (0, .methodref 36 37), (0, .class_ 38), (0, .nameAndType 39 40), (0, u "com/example/sextant/sextant/FieldSizePinLaw"), (0, u "pick"), (0, u "(I)Lcom/example/sextant/sextant/Field;"), (0, .methodref 8 42), (0, .nameAndType 43 44), (0, u "size"), (0, u "()I"), (0, .methodref 36 46), (0, .nameAndType 47 48), (0, u "expected"), (0, u "(I)I"), (3, u "law"), (0, u "(I)Z")] 2

def k1m0 : Method := { name := "<init>", desc := "()V", sig := { parameters := [], returnType := none }, accessFlags := 2, code := none }
def k1c1 : Code := { maxStack := 2, maxLocals := 1, code := method_2_code, exceptionTable := #[], attributes := #[] }
def k1m1 : Method := { name := "pick", desc := "(I)Lcom/example/sextant/sextant/Field;", sig := { parameters := [.int], returnType := some (.object "com/example/sextant/sextant/Field") }, accessFlags := 10, code := some k1c1 }
def k1c2 : Code := { maxStack := 2, maxLocals := 1, code := method_3_code, exceptionTable := #[], attributes := #[] }
def k1m2 : Method := { name := "expected", desc := "(I)I", sig := { parameters := [.int], returnType := some .int }, accessFlags := 10, code := some k1c2 }
def k1c3 : Code := { maxStack := 2, maxLocals := 3, code := code, exceptionTable := #[], attributes := #[] }
def k1m3 : Method := { name := "law", desc := "(I)Z", sig := { parameters := [.int], returnType := some .boolean }, accessFlags := 9, code := some k1c3 }
/-- com/example/sextant/sextant/FieldSizePinLaw -/
def k1 : Class := { plain "com/example/sextant/sextant/FieldSizePinLaw" (some 0) with
  accessFlags := 49
  interfaces := #[]
  cf := some (fileOf pool1 36 #[] #[{ accessFlags := 2, nameIndex := 5, descriptorIndex := 6, attributes := #[] }, { accessFlags := 10, nameIndex := 39, descriptorIndex := 40, attributes := #[] }, { accessFlags := 10, nameIndex := 47, descriptorIndex := 48, attributes := #[] }, { accessFlags := 9, nameIndex := 52, descriptorIndex := 53, attributes := #[] }] 49 2 #[] #[])
  fields := #[]
  methods := #[k1m0, k1m1, k1m2, k1m3]
  instanceTypes := #[]
  staticTypes := #[]
  resolved := Array.replicate 56 none
  statics := none }

def pool2 : Array CpInfo := pool [(1, .class_ 2), (0, u "java/lang/constant/Constable"), (0, .class_ 4), (0, u "java/lang/Object")] 6

/-- java/lang/constant/Constable -/
def k2 : Class := { plain "java/lang/constant/Constable" (some 0) with
  accessFlags := 1537
  interfaces := #[]
  cf := some (fileOf pool2 1 #[] #[] 1537 3 #[] #[])
  fields := #[]
  methods := #[]
  instanceTypes := #[]
  staticTypes := #[]
  resolved := Array.replicate 11 none
  statics := none }

def pool3 : Array CpInfo := pool [(1, .class_ 2), (0, u "java/lang/Comparable"), (0, .class_ 4), (0, u "java/lang/Object")] 7

/-- java/lang/Comparable -/
def k3 : Class := { plain "java/lang/Comparable" (some 0) with
  accessFlags := 1537
  interfaces := #[]
  cf := some (fileOf pool3 1 #[] #[] 1537 3 #[] #[])
  fields := #[]
  methods := #[]
  instanceTypes := #[]
  staticTypes := #[]
  resolved := Array.replicate 12 none
  statics := none }

def pool4 : Array CpInfo := pool [(1, .class_ 2), (0, u "java/io/Serializable"), (0, .class_ 4), (0, u "java/lang/Object")] 2

/-- java/io/Serializable -/
def k4 : Class := { plain "java/io/Serializable" (some 0) with
  accessFlags := 1537
  interfaces := #[]
  cf := some (fileOf pool4 1 #[] #[] 1537 3 #[] #[])
  fields := #[]
  methods := #[]
  instanceTypes := #[]
  staticTypes := #[]
  resolved := Array.replicate 7 none
  statics := none }

def pool5 : Array CpInfo := pool [(2, .class_ 4), (1, u "java/lang/Enum"), (0, u "name"), (0, u "Ljava/lang/String;"), (2, u "ordinal"), (0, u "I"), (1, .class_ 14), (1, u "java/lang/Object"), (4, u "hash"), (86, .class_ 108), (1, u "java/lang/Enum$EnumDesc"), (2, .class_ 112), (0, u "java/lang/constant/Constable"), (0, .class_ 114), (0, u "java/lang/Comparable"), (0, .class_ 116), (0, u "java/io/Serializable")] 87

/-- java/lang/Enum -/
def k5 : Class := { plain "java/lang/Enum" (some 0) with
  accessFlags := 1057
  interfaces := #[2, 3, 4]
  cf := some (fileOf pool5 2 #[.nestMembers #[106]] #[] 1057 12 #[111, 113, 115] #[{ accessFlags := 18, nameIndex := 5, descriptorIndex := 6, attributes := #[] }, { accessFlags := 18, nameIndex := 9, descriptorIndex := 10, attributes := #[] }, { accessFlags := 2, nameIndex := 19, descriptorIndex := 10, attributes := #[] }])
  fields := #[{ name := "name", type := (.object "java/lang/String"), accessFlags := 18, slot := 0, constantValue := 0 }, { name := "ordinal", type := .int, accessFlags := 18, slot := 1, constantValue := 0 }, { name := "hash", type := .int, accessFlags := 2, slot := 2, constantValue := 0 }]
  methods := #[]
  instanceTypes := #[(.object "java/lang/String"), .int, .int]
  staticTypes := #[]
  resolved := Array.replicate 204 none
  statics := none }

def pool6 : Array CpInfo := pool [(1, .class_ 2), (0, u "com/example/sextant/sextant/Field"), (2, u "SECOND"), (0, u "Lcom/example/sextant/sextant/Field;"), (2, u "MINUTE"), (2, u "HOUR"), (2, u "DAY_OF_MONTH"), (2, u "MONTH"), (2, u "DAY_OF_WEEK"), (2, u "DAY_OF_WEEK_FROM_1"), (2, u "YEAR"), (2, u "$VALUES"), (0, u "[Lcom/example/sextant/sextant/Field;"), (6, .class_ 40), (1, u "java/lang/Enum"), (8, u "label"), (0, u "Ljava/lang/String;"), (0, .fieldref 1 52), (0, .nameAndType 53 54), (0, u "min"), (0, u "I"), (0, .fieldref 1 56), (0, .nameAndType 57 54), (0, u "max"), (8, u "names"), (0, u "Ljava/util/List;"), (14, u "size"), (0, u "()I"), (47, .class_ 132), (0, u "com/example/sextant/sextant/Field$Names")] 50

def k6c0 : Code := { maxStack := 2, maxLocals := 1, code := prog_7_method_7_code, exceptionTable := #[], attributes := #[] }
def k6m0 : Method := { name := "size", desc := "()I", sig := { parameters := [], returnType := some .int }, accessFlags := 0, code := some k6c0 }
/-- com/example/sextant/sextant/Field -/
def k6 : Class := { plain "com/example/sextant/sextant/Field" (some 5) with
  accessFlags := 16432
  interfaces := #[]
  cf := some (fileOf pool6 1 #[.nestMembers #[131]] #[{ accessFlags := 0, nameIndex := 82, descriptorIndex := 83, attributes := #[] }] 16432 38 #[] #[{ accessFlags := 16409, nameIndex := 5, descriptorIndex := 6, attributes := #[] }, { accessFlags := 16409, nameIndex := 9, descriptorIndex := 6, attributes := #[] }, { accessFlags := 16409, nameIndex := 12, descriptorIndex := 6, attributes := #[] }, { accessFlags := 16409, nameIndex := 15, descriptorIndex := 6, attributes := #[] }, { accessFlags := 16409, nameIndex := 18, descriptorIndex := 6, attributes := #[] }, { accessFlags := 16409, nameIndex := 21, descriptorIndex := 6, attributes := #[] }, { accessFlags := 16409, nameIndex := 24, descriptorIndex := 6, attributes := #[] }, { accessFlags := 16409, nameIndex := 27, descriptorIndex := 6, attributes := #[] }, { accessFlags := 18, nameIndex := 49, descriptorIndex := 50, attributes := #[] }, { accessFlags := 18, nameIndex := 53, descriptorIndex := 54, attributes := #[] }, { accessFlags := 18, nameIndex := 57, descriptorIndex := 54, attributes := #[] }, { accessFlags := 18, nameIndex := 66, descriptorIndex := 67, attributes := #[] }, { accessFlags := 4122, nameIndex := 30, descriptorIndex := 31, attributes := #[] }])
  fields := #[{ name := "SECOND", type := (.object "com/example/sextant/sextant/Field"), accessFlags := 16409, slot := 0, constantValue := 0 }, { name := "MINUTE", type := (.object "com/example/sextant/sextant/Field"), accessFlags := 16409, slot := 1, constantValue := 0 }, { name := "HOUR", type := (.object "com/example/sextant/sextant/Field"), accessFlags := 16409, slot := 2, constantValue := 0 }, { name := "DAY_OF_MONTH", type := (.object "com/example/sextant/sextant/Field"), accessFlags := 16409, slot := 3, constantValue := 0 }, { name := "MONTH", type := (.object "com/example/sextant/sextant/Field"), accessFlags := 16409, slot := 4, constantValue := 0 }, { name := "DAY_OF_WEEK", type := (.object "com/example/sextant/sextant/Field"), accessFlags := 16409, slot := 5, constantValue := 0 }, { name := "DAY_OF_WEEK_FROM_1", type := (.object "com/example/sextant/sextant/Field"), accessFlags := 16409, slot := 6, constantValue := 0 }, { name := "YEAR", type := (.object "com/example/sextant/sextant/Field"), accessFlags := 16409, slot := 7, constantValue := 0 }, { name := "label", type := (.object "java/lang/String"), accessFlags := 18, slot := 3, constantValue := 0 }, { name := "min", type := .int, accessFlags := 18, slot := 4, constantValue := 0 }, { name := "max", type := .int, accessFlags := 18, slot := 5, constantValue := 0 }, { name := "names", type := (.object "java/util/List"), accessFlags := 18, slot := 6, constantValue := 0 }, { name := "$VALUES", type := (.array (.object "com/example/sextant/sextant/Field")), accessFlags := 4122, slot := 8, constantValue := 0 }]
  methods := #[k6m0]
  instanceTypes := #[(.object "java/lang/String"), .int, .int, (.object "java/lang/String"), .int, .int, (.object "java/util/List")]
  staticTypes := #[(.object "com/example/sextant/sextant/Field"), (.object "com/example/sextant/sextant/Field"), (.object "com/example/sextant/sextant/Field"), (.object "com/example/sextant/sextant/Field"), (.object "com/example/sextant/sextant/Field"), (.object "com/example/sextant/sextant/Field"), (.object "com/example/sextant/sextant/Field"), (.object "com/example/sextant/sextant/Field"), (.array (.object "com/example/sextant/sextant/Field"))]
  resolved := Array.replicate 183 none
  statics := some 0 }

def pool7 : Array CpInfo := pool [(1, u "java/lang/Cloneable"), (0, .class_ 1), (0, u "java/lang/Object"), (0, .class_ 3)] 3

/-- java/lang/Cloneable -/
def k7 : Class := { plain "java/lang/Cloneable" (some 0) with
  accessFlags := 1537
  interfaces := #[]
  cf := some (fileOf pool7 2 #[] #[] 1537 4 #[] #[])
  fields := #[]
  methods := #[]
  instanceTypes := #[]
  staticTypes := #[]
  resolved := Array.replicate 8 none
  statics := none }

/-- the primitive byte -/
def k8 : Class := { plain "byte" none with kind := .primitive 'B', accessFlags := 0x411 }
/-- [B -/
def k9 : Class := { plain "[B" (some 0) with kind := .array 8 .byte, interfaces := #[7, 4], accessFlags := 1041 }

/-- the primitive int -/
def k10 : Class := { plain "int" none with kind := .primitive 'I', accessFlags := 0x411 }
/-- [I -/
def k11 : Class := { plain "[I" (some 0) with kind := .array 10 .int, interfaces := #[7, 4], accessFlags := 1041 }

def heap : Heap := #[{ cls := 6, slots := #[.ref 1, .ref 2, .ref 3, .ref 4, .ref 5, .ref 6, .ref 7, .ref 8, .null], vm := .statics 6 },
  { cls := 6, slots := #[.null, .int 0, .int 0, .null, .int 0, .int 59, .null], vm := .none },
  { cls := 6, slots := #[.null, .int 1, .int 0, .null, .int 0, .int 59, .null], vm := .none },
  { cls := 6, slots := #[.null, .int 2, .int 0, .null, .int 0, .int 23, .null], vm := .none },
  { cls := 6, slots := #[.null, .int 3, .int 0, .null, .int 1, .int 31, .null], vm := .none },
  { cls := 6, slots := #[.null, .int 4, .int 0, .null, .int 1, .int 12, .null], vm := .none },
  { cls := 6, slots := #[.null, .int 5, .int 0, .null, .int 0, .int 7, .null], vm := .none },
  { cls := 6, slots := #[.null, .int 6, .int 0, .null, .int 1, .int 7, .null], vm := .none },
  { cls := 6, slots := #[.null, .int 7, .int 0, .null, .int 1970, .int 2199, .null], vm := .none }]
def classes : Array Class := #[k0, k1, k2, k3, k4, k5, k6, k7, k8, k9, k10, k11]
def interned : List (Array UInt16 × Addr) := []
def slotsUsed : Nat := 65
def theMethod : MethodId := ⟨1, 3⟩
def args0 : Array Value := #[.int 5]
def aboutOver (below : List Frame) : State where
  vm := { classes := classes, interned := interned.toArray }
  heap := heap
  slotsUsed := slotsUsed
  threads := #[{ frames := .invoking theMethod args0 :: below }]
def below0 : List Frame := [.native { method := ⟨0, 0⟩, args := #[] }]
def about1 : State := aboutOver below0
def p0 : Program := .bare "" "" ""
def e0 : Env := launch0.env 0 0 0
theorem w_frames : about1.frames = Frame.invoking theMethod args0 :: below0 := rfl
set_option maxRecDepth 65536 in
theorem w_args : argsFit about1.vm theMethod args0 = true := by decide +kernel
set_option maxRecDepth 65536 in
theorem w_heap : heapFits about1 = true := by decide +kernel
set_option maxRecDepth 65536 in
theorem w_runnable : about1.curStatus? = some .runnable := by decide +kernel
set_option maxRecDepth 65536 in
theorem w_alone : about1.alone = true := by decide +kernel
set_option maxRecDepth 65536 in
theorem w_named : about1.methodNamed? x = some theMethod := by decide +kernel
set_option maxRecDepth 65536 in
theorem w_hears : about1.hears theMethod below0 = true := by decide +kernel
set_option maxRecDepth 65536 in
theorem w_ripe : about1.ripe theMethod args0 below0 = true := by decide +kernel
theorem w_running : about1.status = .running := rfl
set_option maxRecDepth 65536 in
theorem w_room : about1.hasRoom e0.platform room_1 = true :=
  launch0.hasRoom_least _ room_1 (by decide +kernel) (by decide +kernel) (by decide +kernel) (by decide +kernel) (by decide +kernel) (by decide +kernel)
theorem allAtoms_all (ts : List Jvm.Cond) (a : Array Jvm.Value) (st : Jvm.State) : (allAtoms ts).before a st = ts.all (fun c => c.before a st) := by
  induction ts with
  | nil => rfl
  | cons c t ih =>
    show (Jvm.Cond.and c (allAtoms t)).before a st = _
    rw [Jvm.Cond.before_and, ih, List.all_cons]
def words1 : List Jvm.Cond := Jvm.Cond.code x code maxLocals ret :: tables_1
/-- a 'code' word, met by the world's own term for the bytes: nothing is compared byte by byte -/
theorem code_word {y : MethodName} {bytes : ByteArray} {mx : Nat} {rt : Option FieldType} {a : Array Value} {s : State} {m : MethodId} {meth : Method} {c : Code} (h1 : s.methodNamed? y = some m) (h2 : s.vm.method? m = some meth) (h3 : meth.code = some c) (h4 : c.code = bytes)
    (h5 : (c.maxLocals == mx && c.exceptionTable.isEmpty && decide (c.maxStack ≤ mostOperands) && decide (meth.sig.returnType = rt) && !meth.locks && decide (parseMethodDescriptor y.desc = some meth.sig)) = true) : (Jvm.Cond.code y bytes mx rt).before a s = true := by
  simp only [Bool.and_eq_true, beq_iff_eq, Bool.not_eq_true', decide_eq_true_eq] at h5
  obtain ⟨⟨⟨⟨⟨g1, g2⟩, g3⟩, g4⟩, g5⟩, g6⟩ := h5
  simp [Cond.before, Cond.holds, Cond.value, h1, h2, h3, h4, g1, g2, g3, g4, g5, g6]
def isCode : Jvm.Cond → Bool
  | .code _ _ _ _ => true
  | _ => false
theorem all_split {L : List Jvm.Cond} {P : Jvm.Cond → Bool} (h1 : L.all (fun c => isCode c || P c) = true) (h2 : ∀ c ∈ L.filter isCode, P c = true) : L.all P = true := by
  refine List.all_eq_true.mpr fun c hc => ?_
  have h := List.all_eq_true.mp h1 c hc
  rcases Bool.eq_false_or_eq_true (isCode c) with hi | hi
  · exact h2 c (List.mem_filter.mpr ⟨hc, hi⟩)
  · simpa [hi] using h
set_option maxRecDepth 65536 in
theorem w_c0 : (Jvm.Cond.code x code maxLocals ret).before args0 about1 = true := code_word (m := ⟨1, 3⟩) (meth := k1m3) (c := k1c3) (by decide +kernel) rfl rfl rfl (by decide +kernel)
set_option maxRecDepth 65536 in
theorem w_c1 : (Jvm.Cond.code ({ cls := "com/example/sextant/sextant/FieldSizePinLaw", name := "pick", desc := "(I)Lcom/example/sextant/sextant/Field;" } : Jvm.MethodName) method_2_code (1 : Nat) (Option.some (Jvm.ClassFile.FieldType.object "com/example/sextant/sextant/Field"))).before args0 about1 = true := code_word (m := ⟨1, 1⟩) (meth := k1m1) (c := k1c1) (by decide +kernel) rfl rfl rfl (by decide +kernel)
set_option maxRecDepth 65536 in
theorem w_c2 : (Jvm.Cond.code ({ cls := "com/example/sextant/sextant/Field", name := "size", desc := "()I" } : Jvm.MethodName) prog_7_method_7_code (1 : Nat) (Option.some Jvm.ClassFile.FieldType.int)).before args0 about1 = true := code_word (m := ⟨6, 0⟩) (meth := k6m0) (c := k6c0) (by decide +kernel) rfl rfl rfl (by decide +kernel)
set_option maxRecDepth 65536 in
theorem w_c3 : (Jvm.Cond.code ({ cls := "com/example/sextant/sextant/FieldSizePinLaw", name := "expected", desc := "(I)I" } : Jvm.MethodName) method_3_code (1 : Nat) (Option.some Jvm.ClassFile.FieldType.int)).before args0 about1 = true := code_word (m := ⟨1, 2⟩) (meth := k1m2) (c := k1c2) (by decide +kernel) rfl rfl rfl (by decide +kernel)
def codes1 : List Jvm.Cond := [Jvm.Cond.code x code maxLocals ret, Jvm.Cond.code ({ cls := "com/example/sextant/sextant/FieldSizePinLaw", name := "pick", desc := "(I)Lcom/example/sextant/sextant/Field;" } : Jvm.MethodName) method_2_code (1 : Nat) (Option.some (Jvm.ClassFile.FieldType.object "com/example/sextant/sextant/Field")), Jvm.Cond.code ({ cls := "com/example/sextant/sextant/Field", name := "size", desc := "()I" } : Jvm.MethodName) prog_7_method_7_code (1 : Nat) (Option.some Jvm.ClassFile.FieldType.int), Jvm.Cond.code ({ cls := "com/example/sextant/sextant/FieldSizePinLaw", name := "expected", desc := "(I)I" } : Jvm.MethodName) method_3_code (1 : Nat) (Option.some Jvm.ClassFile.FieldType.int)]
set_option maxRecDepth 65536 in
theorem codes_eq : words1.filter isCode = codes1 := rfl
theorem w_codes : ∀ c ∈ words1.filter isCode, c.before args0 about1 = true := by
  rw [codes_eq]
  intro c hc
  simp only [codes1, List.mem_cons, List.not_mem_nil, or_false] at hc
  rcases hc with rfl | rfl | rfl | rfl
  · exact w_c0
  · exact w_c1
  · exact w_c2
  · exact w_c3
set_option maxRecDepth 65536 in
theorem w_t1 : (words1.take 24).all (fun c => isCode c || c.before args0 about1) = true := by decide +kernel
set_option maxRecDepth 65536 in
theorem w_t2 : (words1.drop 24).all (fun c => isCode c || c.before args0 about1) = true := by decide +kernel
theorem w_tables : (allAtoms (Jvm.Cond.code x code maxLocals ret :: tables_1)).before args0 about1 = true := by
  rw [allAtoms_all]
  show words1.all (fun c => c.before args0 about1) = true
  refine all_split ?_ w_codes
  rw [← List.take_append_drop 24 words1, List.all_append, w_t1, w_t2]
  rfl
set_option maxRecDepth 65536 in
theorem w_case : (Jvm.Cond.and given_1 narrow_1).before args0 about1 = true := by decide +kernel
theorem w_applies : (headSpec (Jvm.Cond.code x code maxLocals ret :: tables_1) room_1).applies x e0.platform about1 = true :=
  (Spec.applies_iff w_frames).mpr ⟨w_running, w_runnable, w_alone, w_named, w_hears, w_ripe, w_room, w_tables⟩
theorem atStart : AtStart classFile x code maxLocals ret World_1 tables_1 room_1 Calls_1 rest_1 Pre_1 launch0 p0 e0 about1 theMethod args0 below0 :=
  ⟨lists_1, trivial, launch0.admits_env _ _ _, launch0.least_env, fairChoices_fair.cas, fairChoices_fair.clock, w_frames, w_args, w_heap, w_applies, trivial, trivial, w_case⟩
end start1
theorem witness_1 : WitnessClaimed_1 := ⟨start1.p0, start1.e0, start1.about1, start1.theMethod, start1.args0, start1.below0, start1.atStart⟩
end Jvm.Pilot.@@N@@
