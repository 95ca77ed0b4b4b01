import JvmDerived
import JvmDerived.Pilot.@@N@@Statement
import JvmDerived.Pilot.@@N@@Code
set_option linter.unusedVariables false
set_option linter.unusedSimpArgs false
namespace Jvm.RoadKit
open Sem ClassFile Op Lib Jvm.Stand Jvm.Free Jvm.LawKit
section OwnKit
variable {p : Program} {l : Launch} {e : Env} {R : Room} {s : State} {m : MethodId} {args : Array Value} {below : List Frame} {meth : Method} {c : Code} {T : State} {locs : List Loc} {cells slots : Nat}
def EndsQ (tb : Tables) (e : Env) (below : List Frame) (s : State) (Qv : Option Value → Heap → List Loc → Prop) (rc rs : Nat) (st : State) : Prop :=
  ∃ s₂ o, Steps tb e below st s₂ ∧ s₂.status = .running ∧ Ended s₂ below o ∧ ∃ v L, o = .returned v ∧ Qv v s₂.heap L ∧ FrameEnd s o s₂ L rc rs
theorem EndsQ.go {tb : Tables} {Qv : Option Value → Heap → List Loc → Prop} {rc rs : Nat} {a b : State} (k : ∀ t, Steps tb e below b t → Steps tb e below a t) (h : EndsQ tb e below s Qv rc rs b) : EndsQ tb e below s Qv rc rs a := by
  obtain ⟨s₂, o, h1, h2⟩ := h
  exact ⟨s₂, o, k _ h1, h2⟩
theorem EndsQ.out (X : Stand p l e R s m args below meth c T locs cells slots) (hlk : meth.locks = false) {Qv : Option Value → Heap → List Loc → Prop} {rc rs : Nat} {v : Option Value} {st : State} (hv : meth.sig.returnType = none → v = none)
    (hs : ∀ fs, (∀ (f : JFrame) (acts : List Action), f.method = m → f.locked = none → f.entered = [] → (doReturn e (T.setTop f) acts v).1 = T.setFrames fs) → Steps p.tables e below st (T.setFrames fs))
    (h1 : cells ≤ rc) (h2 : slots ≤ rs) (hq : Qv v T.heap locs) : EndsQ p.tables e below s Qv rc rs st := by
  obtain ⟨fs, hr, hrun, hended, hW, hsame⟩ := X.leave (v := v) hv hlk
  exact ⟨_, _, hs fs hr, hrun, hended, _, _, rfl, hq, ⟨_, rfl⟩, hW, hsame.mono h1 h2⟩
theorem EndsQ.retI (X : Stand p l e R s m args below meth c T locs cells slots) (hx : p.tables.exec = Jvm.exec) (hlk : meth.locks = false) {Qv : Option Value → Heap → List Loc → Prop} {rc rs pc : Nat} {Ls : Array Slot} {z : Int32} {rest : List Value} (hret : meth.sig.returnType = some .int) (hd : decode c.code pc = .ok (.ireturn, 1))
    (h1 : cells ≤ rc) (h2 : slots ≤ rs) (hq : Qv (some (.int z)) T.heap locs) : EndsQ p.tables e below s Qv rc rs (T.setTop (mkF m pc Ls (.int z :: rest))) := by
  refine EndsQ.out X hlk (v := some (.int z)) (fun h => by rw [hret] at h; cases h) (fun fs hr => ?_) h1 h2 hq
  exact retOut X hx hret rfl (Or.inl ⟨rfl, Or.inl rfl, z, rfl⟩) hd hr
theorem EndsQ.retJ (X : Stand p l e R s m args below meth c T locs cells slots) (hx : p.tables.exec = Jvm.exec) (hlk : meth.locks = false) {Qv : Option Value → Heap → List Loc → Prop} {rc rs pc : Nat} {Ls : Array Slot} {z : Int64} {rest : List Value} (hret : meth.sig.returnType = some .long) (hd : decode c.code pc = .ok (.lreturn, 1))
    (h1 : cells ≤ rc) (h2 : slots ≤ rs) (hq : Qv (some (.long z)) T.heap locs) : EndsQ p.tables e below s Qv rc rs (T.setTop (mkF m pc Ls (.long z :: rest))) := by
  refine EndsQ.out X hlk (v := some (.long z)) (fun h => by rw [hret] at h; cases h) (fun fs hr => ?_) h1 h2 hq
  exact retOut X hx hret rfl (Or.inr (Or.inl ⟨rfl, rfl, z, rfl⟩)) hd hr
theorem EndsQ.retA (X : Stand p l e R s m args below meth c T locs cells slots) (hx : p.tables.exec = Jvm.exec) (hlk : meth.locks = false) {Qv : Option Value → Heap → List Loc → Prop} {rc rs pc : Nat} {Ls : Array Slot} {w : Value} {t : FieldType} {rest : List Value} (hret : meth.sig.returnType = some t) (ht : t.isReference = true) (hw : w.isRef = true) (hn : narrow t w = w) (hd : decode c.code pc = .ok (.areturn, 1))
    (h1 : cells ≤ rc) (h2 : slots ≤ rs) (hq : Qv (some w) T.heap locs) : EndsQ p.tables e below s Qv rc rs (T.setTop (mkF m pc Ls (w :: rest))) := by
  refine EndsQ.out X hlk (v := some w) (fun h => by rw [hret] at h; cases h) (fun fs hr => ?_) h1 h2 hq
  exact retOut X hx hret hn (Or.inr (Or.inr (Or.inr (Or.inr ⟨rfl, ht, hw⟩)))) hd hr
theorem EndsQ.retN (X : Stand p l e R s m args below meth c T locs cells slots) (hx : p.tables.exec = Jvm.exec) (hlk : meth.locks = false) {Qv : Option Value → Heap → List Loc → Prop} {rc rs pc : Nat} {Ls : Array Slot} {z : Int32} {t : FieldType} {rest : List Value} (hret : meth.sig.returnType = some t) (ht : t = .boolean ∨ t = .byte ∨ t = .char ∨ t = .short) (hd : decode c.code pc = .ok (.ireturn, 1))
    (h1 : cells ≤ rc) (h2 : slots ≤ rs) (hq : Qv (some (.int (nar t z))) T.heap locs) : EndsQ p.tables e below s Qv rc rs (T.setTop (mkF m pc Ls (.int z :: rest))) := by
  refine EndsQ.out X hlk (v := some (.int (nar t z))) (fun h => by rw [hret] at h; cases h) (fun fs hr => ?_) h1 h2 hq
  exact Jvm.RoadKit.retN X hx hret ht hd hr
theorem EndsQ.retV (X : Stand p l e R s m args below meth c T locs cells slots) (hx : p.tables.exec = Jvm.exec) (hlk : meth.locks = false) {Qv : Option Value → Heap → List Loc → Prop} {rc rs pc : Nat} {Ls : Array Slot} (hret : meth.sig.returnType = none) (hd : decode c.code pc = .ok (.return_, 1))
    (h1 : cells ≤ rc) (h2 : slots ≤ rs) (hq : Qv none T.heap locs) : EndsQ p.tables e below s Qv rc rs (T.setTop (mkF m pc Ls [])) := by
  refine EndsQ.out X hlk (v := none) (fun _ => rfl) (fun fs hr => ?_) h1 h2 hq
  exact X.returnOut hx hret hd hr
end OwnKit
end Jvm.RoadKit
namespace Jvm.Pilot.@@N@@
open Jvm Jvm.ClassFile Sem Op Lib Jvm.Free Jvm.Stand Jvm.LawKit Jvm.RoadKit Bundle Jvm.Pilot.@@N@@.Jvm.D

theorem own_eqI {args : Array Value} {first s : State} {o : Option Outcome} {idx : List Nat} {t : Term} {k : Int32} (h : (Cond.eq t (.int k)).value args first o s idx = some true) : t.eval args first o idx s = some (.int k) := by
  simp only [Cond.value, Term.eval] at h; cases ht : t.eval args first o idx s with | none => simp [ht] at h | some x => cases x <;> simp [ht] at h ⊢; exact h
theorem own_arr {args : Array Value} {s : State} {t : Term} {ty : FieldType} {a : Addr} {z : Int32} (h : (Cond.arrayOf t ty).value args s none s [] = some true) (ev : t.eval args s none [] s = some (.ref a)) (hl : (Cond.eq (.length t) (.int z)).value args s none s [] = some true) :
    ∃ cl, Arr s s.heap a cl ty ∧ cl.slots.size < 2 ^ 31 ∧ cl.slots.size.toInt32 = z := by
  obtain ⟨cl, A⟩ := Jvm.RoadKit.Arr.start ev h
  obtain ⟨b, cell, e1, e2, e3, e4⟩ := Jvm.Lib.length_spec (own_eqI hl)
  cases ev.symm.trans e1
  cases A.1.symm.trans (Jvm.Lib.arrayAt_spec e2).1
  exact ⟨cl, A, e3, (Value.int.inj e4).symm⟩
theorem own_eqR {args : Array Value} {first s : State} {o : Option Outcome} {idx : List Nat} {t u : Term} {a : Addr} (h : (Cond.eq t u).value args first o s idx = some true) (hu : u.eval args first o idx s = some (.ref a)) : t.eval args first o idx s = some (.ref a) := by
  simp only [Cond.value, hu] at h; cases ht : t.eval args first o idx s with | none => simp [ht] at h | some x => cases x <;> simp [ht] at h ⊢; exact h

def own_of (p : Int32) (a_MEMBERS a_PULL a_STORE a_READ a_COUNT a_JOIN a_PING a_CATCH_UP a_HAND_OFF a_LOAD a_QUERY a_STATUS : Addr) : Addr := if (1 : Int32) = p then a_MEMBERS else if (2 : Int32) = p then a_PULL else if (3 : Int32) = p then a_STORE else if (4 : Int32) = p then a_READ else if (5 : Int32) = p then a_COUNT else if (6 : Int32) = p then a_JOIN else if (7 : Int32) = p then a_PING else if (8 : Int32) = p then a_CATCH_UP else if (9 : Int32) = p then a_HAND_OFF else if (10 : Int32) = p then a_LOAD else if (11 : Int32) = p then a_QUERY else a_STATUS
def own_exp (p : Int32) (a_MEMBERS a_PULL a_STORE a_READ a_COUNT a_JOIN a_PING a_CATCH_UP a_HAND_OFF a_LOAD a_QUERY a_STATUS : Addr) : Addr := if p = (1 : Int32) then a_MEMBERS else if p = (2 : Int32) then a_PULL else if p = (3 : Int32) then a_STORE else if p = (4 : Int32) then a_READ else if p = (5 : Int32) then a_COUNT else if p = (6 : Int32) then a_JOIN else if p = (7 : Int32) then a_PING else if p = (8 : Int32) then a_CATCH_UP else if p = (9 : Int32) then a_HAND_OFF else if p = (10 : Int32) then a_LOAD else if p = (11 : Int32) then a_QUERY else a_STATUS
theorem own_last (p : Int32) (hp : p = (1 : Int32) ∨ p = (2 : Int32) ∨ p = (3 : Int32) ∨ p = (4 : Int32) ∨ p = (5 : Int32) ∨ p = (6 : Int32) ∨ p = (7 : Int32) ∨ p = (8 : Int32) ∨ p = (9 : Int32) ∨ p = (10 : Int32) ∨ p = (11 : Int32) ∨ p = (12 : Int32)) (h1 : ¬ (1 : Int32) = p) (h2 : ¬ (2 : Int32) = p) (h3 : ¬ (3 : Int32) = p) (h4 : ¬ (4 : Int32) = p) (h5 : ¬ (5 : Int32) = p) (h6 : ¬ (6 : Int32) = p) (h7 : ¬ (7 : Int32) = p) (h8 : ¬ (8 : Int32) = p) (h9 : ¬ (9 : Int32) = p) (h10 : ¬ (10 : Int32) = p) (h11 : ¬ (11 : Int32) = p) : (12 : Int32) = p := by
  rcases hp with h | h | h | h | h | h | h | h | h | h | h | h
  · exact absurd h.symm h1
  · exact absurd h.symm h2
  · exact absurd h.symm h3
  · exact absurd h.symm h4
  · exact absurd h.symm h5
  · exact absurd h.symm h6
  · exact absurd h.symm h7
  · exact absurd h.symm h8
  · exact absurd h.symm h9
  · exact absurd h.symm h10
  · exact absurd h.symm h11
  · exact h.symm
theorem own_c12 (x : Int32) : ((1 : Int32) + ((x &&& (2147483647 : Int32)) % (12 : Int32))) = (1 : Int32) ∨ ((1 : Int32) + ((x &&& (2147483647 : Int32)) % (12 : Int32))) = (2 : Int32) ∨ ((1 : Int32) + ((x &&& (2147483647 : Int32)) % (12 : Int32))) = (3 : Int32) ∨ ((1 : Int32) + ((x &&& (2147483647 : Int32)) % (12 : Int32))) = (4 : Int32) ∨ ((1 : Int32) + ((x &&& (2147483647 : Int32)) % (12 : Int32))) = (5 : Int32) ∨ ((1 : Int32) + ((x &&& (2147483647 : Int32)) % (12 : Int32))) = (6 : Int32) ∨ ((1 : Int32) + ((x &&& (2147483647 : Int32)) % (12 : Int32))) = (7 : Int32) ∨ ((1 : Int32) + ((x &&& (2147483647 : Int32)) % (12 : Int32))) = (8 : Int32) ∨ ((1 : Int32) + ((x &&& (2147483647 : Int32)) % (12 : Int32))) = (9 : Int32) ∨ ((1 : Int32) + ((x &&& (2147483647 : Int32)) % (12 : Int32))) = (10 : Int32) ∨ ((1 : Int32) + ((x &&& (2147483647 : Int32)) % (12 : Int32))) = (11 : Int32) ∨ ((1 : Int32) + ((x &&& (2147483647 : Int32)) % (12 : Int32))) = (12 : Int32) := by
  have h1 := c_mask x (2147483647 : Int32) 31 (by decide) rfl
  have h2 := (c_irem (x &&& (2147483647 : Int32)) (12 : Int32) 12 rfl).1 (by omega)
  have h3 := c_iadd (1 : Int32) ((x &&& (2147483647 : Int32)) % (12 : Int32))
  have h4 : (1 : Int32).toInt = 1 := rfl
  have h5 := rng32 ((1 : Int32) + ((x &&& (2147483647 : Int32)) % (12 : Int32)))
  have e : ∀ (j : Int32) (z : Int), j.toInt = z → ((1 : Int32) + ((x &&& (2147483647 : Int32)) % (12 : Int32))).toInt = z → ((1 : Int32) + ((x &&& (2147483647 : Int32)) % (12 : Int32))) = j := fun j z hz h => Int32.toInt_inj.mp (h.trans hz.symm)
  generalize ((1 : Int32) + ((x &&& (2147483647 : Int32)) % (12 : Int32))) = y at *
  have h6 : y.toInt = 1 ∨ y.toInt = 2 ∨ y.toInt = 3 ∨ y.toInt = 4 ∨ y.toInt = 5 ∨ y.toInt = 6 ∨ y.toInt = 7 ∨ y.toInt = 8 ∨ y.toInt = 9 ∨ y.toInt = 10 ∨ y.toInt = 11 ∨ y.toInt = 12 := by omega
  rcases h6 with h | h | h | h | h | h | h | h | h | h | h | h
  · exact Or.inl (e 1 1 rfl h)
  · exact Or.inr (Or.inl (e 2 2 rfl h))
  · exact Or.inr (Or.inr (Or.inl (e 3 3 rfl h)))
  · exact Or.inr (Or.inr (Or.inr (Or.inl (e 4 4 rfl h))))
  · exact Or.inr (Or.inr (Or.inr (Or.inr (Or.inl (e 5 5 rfl h)))))
  · exact Or.inr (Or.inr (Or.inr (Or.inr (Or.inr (Or.inl (e 6 6 rfl h))))))
  · exact Or.inr (Or.inr (Or.inr (Or.inr (Or.inr (Or.inr (Or.inl (e 7 7 rfl h)))))))
  · exact Or.inr (Or.inr (Or.inr (Or.inr (Or.inr (Or.inr (Or.inr (Or.inl (e 8 8 rfl h))))))))
  · exact Or.inr (Or.inr (Or.inr (Or.inr (Or.inr (Or.inr (Or.inr (Or.inr (Or.inl (e 9 9 rfl h)))))))))
  · exact Or.inr (Or.inr (Or.inr (Or.inr (Or.inr (Or.inr (Or.inr (Or.inr (Or.inr (Or.inl (e 10 10 rfl h))))))))))
  · exact Or.inr (Or.inr (Or.inr (Or.inr (Or.inr (Or.inr (Or.inr (Or.inr (Or.inr (Or.inr (Or.inl (e 11 11 rfl h)))))))))))
  · exact Or.inr (Or.inr (Or.inr (Or.inr (Or.inr (Or.inr (Or.inr (Or.inr (Or.inr (Or.inr (Or.inr ((e 12 12 rfl h))))))))))))
theorem d2_0 : decode prog_31_method_1_code 0 = .ok (.getstatic 40, 3) := by decide +kernel
theorem d2_3 : decode prog_31_method_1_code 3 = .ok (.invokevirtual 44, 3) := by decide +kernel
theorem d2_6 : decode prog_31_method_1_code 6 = .ok (.checkcast 45, 3) := by decide +kernel
theorem d2_9 : decode prog_31_method_1_code 9 = .ok (.areturn, 1) := by decide +kernel
theorem pn_2 : plainName "com/example/chainmesh/chainmesh/Op" = true := by first | (simp [plainName, overriddenIn]; done) | decide +kernel
theorem d1_0 : decode prog_31_method_5_code 0 = .ok (.invokestatic 63, 3) := by decide +kernel
theorem d1_3 : decode prog_31_method_5_code 3 = .ok (.astore_n 1, 1) := by decide +kernel
theorem d1_4 : decode prog_31_method_5_code 4 = .ok (.aload_n 1, 1) := by decide +kernel
theorem d1_5 : decode prog_31_method_5_code 5 = .ok (.arraylength, 1) := by decide +kernel
theorem d1_6 : decode prog_31_method_5_code 6 = .ok (.istore_n 2, 1) := by decide +kernel
theorem d1_7 : decode prog_31_method_5_code 7 = .ok (.iconst 0, 1) := by decide +kernel
theorem d1_8 : decode prog_31_method_5_code 8 = .ok (.istore_n 3, 1) := by decide +kernel
theorem d1_9 : decode prog_31_method_5_code 9 = .ok (.iload_n 3, 1) := by decide +kernel
theorem d1_10 : decode prog_31_method_5_code 10 = .ok (.iload_n 2, 1) := by decide +kernel
theorem d1_11 : decode prog_31_method_5_code 11 = .ok (.if_icmp .ge 26, 3) := by decide +kernel
theorem d1_14 : decode prog_31_method_5_code 14 = .ok (.aload_n 1, 1) := by decide +kernel
theorem d1_15 : decode prog_31_method_5_code 15 = .ok (.iload_n 3, 1) := by decide +kernel
theorem d1_16 : decode prog_31_method_5_code 16 = .ok (.aaload, 1) := by decide +kernel
theorem d1_17 : decode prog_31_method_5_code 17 = .ok (.astore 4, 2) := by decide +kernel
theorem d1_19 : decode prog_31_method_5_code 19 = .ok (.aload 4, 2) := by decide +kernel
theorem d1_21 : decode prog_31_method_5_code 21 = .ok (.getfield 59, 3) := by decide +kernel
theorem d1_24 : decode prog_31_method_5_code 24 = .ok (.iload_n 0, 1) := by decide +kernel
theorem d1_25 : decode prog_31_method_5_code 25 = .ok (.if_icmp .ne 6, 3) := by decide +kernel
theorem d1_28 : decode prog_31_method_5_code 28 = .ok (.aload 4, 2) := by decide +kernel
theorem d1_30 : decode prog_31_method_5_code 30 = .ok (.areturn, 1) := by decide +kernel
theorem d1_31 : decode prog_31_method_5_code 31 = .ok (.iinc 3 1, 3) := by decide +kernel
theorem d1_34 : decode prog_31_method_5_code 34 = .ok (.goto (-25), 3) := by decide +kernel
theorem d1_37 : decode prog_31_method_5_code 37 = .ok (.new 67, 3) := by decide +kernel
theorem d1_40 : decode prog_31_method_5_code 40 = .ok (.dup, 1) := by decide +kernel
theorem d1_41 : decode prog_31_method_5_code 41 = .ok (.iload_n 0, 1) := by decide +kernel
theorem d1_47 : decode prog_31_method_5_code 47 = .ok (.invokespecial 73, 3) := by decide +kernel
theorem d1_50 : decode prog_31_method_5_code 50 = .ok (.athrow, 1) := by decide +kernel
theorem pn_1 : plainName "com/example/chainmesh/chainmesh/Op" = true := by first | (simp [plainName, overriddenIn]; done) | decide +kernel
theorem d3_0 : decode method_2_code 0 = .ok (.iload_n 0, 1) := by decide +kernel
theorem d3_1 : decode method_2_code 1 = .ok (.iconst 1, 1) := by decide +kernel
theorem d3_2 : decode method_2_code 2 = .ok (.if_icmp .ne 7, 3) := by decide +kernel
theorem d3_5 : decode method_2_code 5 = .ok (.getstatic 7, 3) := by decide +kernel
theorem d3_8 : decode method_2_code 8 = .ok (.areturn, 1) := by decide +kernel
theorem d3_9 : decode method_2_code 9 = .ok (.iload_n 0, 1) := by decide +kernel
theorem d3_10 : decode method_2_code 10 = .ok (.iconst 2, 1) := by decide +kernel
theorem d3_11 : decode method_2_code 11 = .ok (.if_icmp .ne 7, 3) := by decide +kernel
theorem d3_14 : decode method_2_code 14 = .ok (.getstatic 13, 3) := by decide +kernel
theorem d3_17 : decode method_2_code 17 = .ok (.areturn, 1) := by decide +kernel
theorem d3_18 : decode method_2_code 18 = .ok (.iload_n 0, 1) := by decide +kernel
theorem d3_19 : decode method_2_code 19 = .ok (.iconst 3, 1) := by decide +kernel
theorem d3_20 : decode method_2_code 20 = .ok (.if_icmp .ne 7, 3) := by decide +kernel
theorem d3_23 : decode method_2_code 23 = .ok (.getstatic 16, 3) := by decide +kernel
theorem d3_26 : decode method_2_code 26 = .ok (.areturn, 1) := by decide +kernel
theorem d3_27 : decode method_2_code 27 = .ok (.iload_n 0, 1) := by decide +kernel
theorem d3_28 : decode method_2_code 28 = .ok (.iconst 4, 1) := by decide +kernel
theorem d3_29 : decode method_2_code 29 = .ok (.if_icmp .ne 7, 3) := by decide +kernel
theorem d3_32 : decode method_2_code 32 = .ok (.getstatic 19, 3) := by decide +kernel
theorem d3_35 : decode method_2_code 35 = .ok (.areturn, 1) := by decide +kernel
theorem d3_36 : decode method_2_code 36 = .ok (.iload_n 0, 1) := by decide +kernel
theorem d3_37 : decode method_2_code 37 = .ok (.iconst 5, 1) := by decide +kernel
theorem d3_38 : decode method_2_code 38 = .ok (.if_icmp .ne 7, 3) := by decide +kernel
theorem d3_41 : decode method_2_code 41 = .ok (.getstatic 22, 3) := by decide +kernel
theorem d3_44 : decode method_2_code 44 = .ok (.areturn, 1) := by decide +kernel
theorem d3_45 : decode method_2_code 45 = .ok (.iload_n 0, 1) := by decide +kernel
theorem d3_46 : decode method_2_code 46 = .ok (.bipush 6, 2) := by decide +kernel
theorem d3_48 : decode method_2_code 48 = .ok (.if_icmp .ne 7, 3) := by decide +kernel
theorem d3_51 : decode method_2_code 51 = .ok (.getstatic 25, 3) := by decide +kernel
theorem d3_54 : decode method_2_code 54 = .ok (.areturn, 1) := by decide +kernel
theorem d3_55 : decode method_2_code 55 = .ok (.iload_n 0, 1) := by decide +kernel
theorem d3_56 : decode method_2_code 56 = .ok (.bipush 7, 2) := by decide +kernel
theorem d3_58 : decode method_2_code 58 = .ok (.if_icmp .ne 7, 3) := by decide +kernel
theorem d3_61 : decode method_2_code 61 = .ok (.getstatic 28, 3) := by decide +kernel
theorem d3_64 : decode method_2_code 64 = .ok (.areturn, 1) := by decide +kernel
theorem d3_65 : decode method_2_code 65 = .ok (.iload_n 0, 1) := by decide +kernel
theorem d3_66 : decode method_2_code 66 = .ok (.bipush 8, 2) := by decide +kernel
theorem d3_68 : decode method_2_code 68 = .ok (.if_icmp .ne 7, 3) := by decide +kernel
theorem d3_71 : decode method_2_code 71 = .ok (.getstatic 31, 3) := by decide +kernel
theorem d3_74 : decode method_2_code 74 = .ok (.areturn, 1) := by decide +kernel
theorem d3_75 : decode method_2_code 75 = .ok (.iload_n 0, 1) := by decide +kernel
theorem d3_76 : decode method_2_code 76 = .ok (.bipush 9, 2) := by decide +kernel
theorem d3_78 : decode method_2_code 78 = .ok (.if_icmp .ne 7, 3) := by decide +kernel
theorem d3_81 : decode method_2_code 81 = .ok (.getstatic 34, 3) := by decide +kernel
theorem d3_84 : decode method_2_code 84 = .ok (.areturn, 1) := by decide +kernel
theorem d3_85 : decode method_2_code 85 = .ok (.iload_n 0, 1) := by decide +kernel
theorem d3_86 : decode method_2_code 86 = .ok (.bipush 10, 2) := by decide +kernel
theorem d3_88 : decode method_2_code 88 = .ok (.if_icmp .ne 7, 3) := by decide +kernel
theorem d3_91 : decode method_2_code 91 = .ok (.getstatic 37, 3) := by decide +kernel
theorem d3_94 : decode method_2_code 94 = .ok (.areturn, 1) := by decide +kernel
theorem d3_95 : decode method_2_code 95 = .ok (.iload_n 0, 1) := by decide +kernel
theorem d3_96 : decode method_2_code 96 = .ok (.bipush 11, 2) := by decide +kernel
theorem d3_98 : decode method_2_code 98 = .ok (.if_icmp .ne 7, 3) := by decide +kernel
theorem d3_101 : decode method_2_code 101 = .ok (.getstatic 40, 3) := by decide +kernel
theorem d3_104 : decode method_2_code 104 = .ok (.areturn, 1) := by decide +kernel
theorem d3_105 : decode method_2_code 105 = .ok (.getstatic 43, 3) := by decide +kernel
theorem d3_108 : decode method_2_code 108 = .ok (.areturn, 1) := by decide +kernel
theorem pn_3 : plainName "com/example/chainmesh/chainmesh/OpOfPinLaw" = true := by first | (simp [plainName, overriddenIn]; done) | decide +kernel
theorem d4_0 : decode prog_31_method_4_code 0 = .ok (.aload_n 0, 1) := by decide +kernel
theorem d4_1 : decode prog_31_method_4_code 1 = .ok (.getfield 59, 3) := by decide +kernel
theorem d4_4 : decode prog_31_method_4_code 4 = .ok (.ireturn, 1) := by decide +kernel
theorem pn_4 : plainName "com/example/chainmesh/chainmesh/Op" = true := by first | (simp [plainName, overriddenIn]; done) | decide +kernel
theorem pn_0 : plainName "com/example/chainmesh/chainmesh/OpOfPinLaw" = true := by first | (simp [plainName, overriddenIn]; done) | decide +kernel
theorem pd_0 : parseMethodDescriptor "()[Lcom/example/chainmesh/chainmesh/Op;" = some ⟨[], some (.array (.object "com/example/chainmesh/chainmesh/Op"))⟩ := by decide +kernel
theorem pd_1 : parseMethodDescriptor "(B)Lcom/example/chainmesh/chainmesh/Op;" = some ⟨[.byte], some (.object "com/example/chainmesh/chainmesh/Op")⟩ := by decide +kernel
theorem pd_2 : parseMethodDescriptor "(I)Lcom/example/chainmesh/chainmesh/Op;" = some ⟨[.int], some (.object "com/example/chainmesh/chainmesh/Op")⟩ := by decide +kernel
theorem pd_3 : parseMethodDescriptor "()B" = some ⟨[], some .byte⟩ := by decide +kernel
theorem ef_2 (m : MethodId)  : entryFrame m #[] 0 = mkF m 0 #[] [] := by first | (simp [entryFrame, mkF, argsToLocals, Value.category]; done) | rfl
def Q2 (Z : State) (a_VALUES : Addr) (kA : ClassId) (a_MEMBERS : Addr) (a_PULL : Addr) (a_STORE : Addr) (a_READ : Addr) (a_COUNT : Addr) (a_JOIN : Addr) (a_PING : Addr) (a_CATCH_UP : Addr) (a_HAND_OFF : Addr) (a_LOAD : Addr) (a_QUERY : Addr) (a_STATUS : Addr) (h0 : Heap) (n0 : Nat) (v : Option Value) (h : Heap) (L : List Loc) : Prop := ∃ b : Addr, v = some (.ref b) ∧ Fr n0 L ∧ Ext h0 h ∧ n0 ≤ b ∧ Arv Z h b kA (.object "com/example/chainmesh/chainmesh/Op") (12 : Int32) [(.ref a_MEMBERS), (.ref a_PULL), (.ref a_STORE), (.ref a_READ), (.ref a_COUNT), (.ref a_JOIN), (.ref a_PING), (.ref a_CATCH_UP), (.ref a_HAND_OFF), (.ref a_LOAD), (.ref a_QUERY), (.ref a_STATUS)] .null
set_option maxRecDepth 65536 in
set_option maxHeartbeats 40000000 in
theorem rm2 (l : Launch) (Z : State) (a0 : Array Value) (hw : ∀ d ∈ tables_1, d.before a0 Z = true) (ws : List Jvm.Cond) (a_VALUES : Addr) (kA : ClassId) (a_MEMBERS : Addr) (a_PULL : Addr) (a_STORE : Addr) (a_READ : Addr) (a_COUNT : Addr) (a_JOIN : Addr) (a_PING : Addr) (a_CATCH_UP : Addr) (a_HAND_OFF : Addr) (a_LOAD : Addr) (a_QUERY : Addr) (a_STATUS : Addr) (h0 : Heap) (n0 : Nat) (Z0 : n0 ≤ h0.size) (S_VALUES : Sta Z h0 "com/example/chainmesh/chainmesh/Op" "$VALUES" "[Lcom/example/chainmesh/chainmesh/Op;" (.ref a_VALUES)) (V_VALUES : Arv Z h0 a_VALUES kA (.object "com/example/chainmesh/chainmesh/Op") (12 : Int32) [(.ref a_MEMBERS), (.ref a_PULL), (.ref a_STORE), (.ref a_READ), (.ref a_COUNT), (.ref a_JOIN), (.ref a_PING), (.ref a_CATCH_UP), (.ref a_HAND_OFF), (.ref a_LOAD), (.ref a_QUERY), (.ref a_STATUS)] .null) (X_VALUES : Exa Z h0 a_VALUES "[Lcom/example/chainmesh/chainmesh/Op;") :
    MetFree l (⟨"com/example/chainmesh/chainmesh/Op", "values", "()[Lcom/example/chainmesh/chainmesh/Op;"⟩ : MethodName) (head1 (Jvm.Cond.code (⟨"com/example/chainmesh/chainmesh/Op", "values", "()[Lcom/example/chainmesh/chainmesh/Op;"⟩ : MethodName) prog_31_method_1_code 0 (some (.array (.object "com/example/chainmesh/chainmesh/Op"))) :: ws) ({ frames := 1, cells := 1, slots := 12, locals := 16 } : Room)) (fun a U => a = #[] ∧ Z.Warmed39 U.vm ∧ U.heap = h0) (fun _ _ _ _ _ => True) (fun _ U o U' => ∃ v L, o = .returned v ∧ Q2 Z a_VALUES kA a_MEMBERS a_PULL a_STORE a_READ a_COUNT a_JOIN a_PING a_CATCH_UP a_HAND_OFF a_LOAD a_QUERY a_STATUS h0 n0 v U'.heap L ∧ FrameEnd U o U' L ({ frames := 1, cells := 1, slots := 12, locals := 16 } : Room).cells ({ frames := 1, cells := 1, slots := 12, locals := 16 } : Room).slots) := by
  refine MetFree.of_bodySF (plainFor_of_name pn_2) hisR ?_
  intro p e s m args below meth c s₁ Bd hml0 hP hK
  obtain ⟨rfl, hZ, hh⟩ := hP
  have hx := Bd.exec
  have hby := Bd.bytes
  have hml : c.maxLocals = 0 := hml0
  have hown : s.vm.findClass "com/example/chainmesh/chainmesh/Op" = some m.cls := findClass_of_methodNamed Bd.named
  have hnm := (name_of_methodNamed Bd.named Bd.method).1
  have X0 : Stand p l e ({ frames := 1, cells := 1, slots := 12, locals := 16 } : Room) s m #[] below meth c s₁ [] 0 0 := Stand.of_body Bd
  have e0 : s₁.heap = h0 := by rw [← hh, Bd.state]; rfl
  have N0 := Fr.nil n0
  show EndsQ p.tables e below s (fun v h L => Q2 Z a_VALUES kA a_MEMBERS a_PULL a_STORE a_READ a_COUNT a_JOIN a_PING a_CATCH_UP a_HAND_OFF a_LOAD a_QUERY a_STATUS h0 n0 v h L) ({ frames := 1, cells := 1, slots := 12, locals := 16 } : Room).cells ({ frames := 1, cells := 1, slots := 12, locals := 16 } : Room).slots _
  refine EndsQ.go (b := s₁.setTop (mkF m 0 #[] [])) (fun t k => castTop (ef_2 m ) k) ?_
  obtain ⟨T101, X101, e101, st101⟩ := getS X0 hx hZ hown (host := "") (hw _ (List.mem_of_getElem? (i := 8) rfl)) Via.refl e0 S_VALUES (g := (mkF m 0 #[] [])) rfl (hb hby d2_0)
  refine EndsQ.go st101 ?_
  show EndsQ _ _ _ _ _ _ _ (T101.setTop (mkF m 3 #[] [(.ref a_VALUES)]))
  obtain ⟨T102, h102, X102, e102, E102, A102, Y102, st102⟩ := cloneH X101 hx hZ hown (hw _ (List.mem_of_getElem? (i := 10) rfl)) (hw _ (List.mem_of_getElem? (i := 11) rfl)) (hw _ (List.mem_of_getElem? (i := 15) rfl)) (hw _ (List.mem_of_getElem? (i := 13) rfl)) (hw _ (List.mem_of_getElem? (i := 14) rfl)) (hw _ (List.mem_of_getElem? (i := 16) rfl)) e101 (Arv.arh V_VALUES) X_VALUES (g := (mkF m 3 #[] [(.ref a_VALUES)])) rfl (by rw [hml]; rfl) rfl (hb hby d2_3) (by decide) (W := 0) (cap := 12) (by show 2 * 0 + _ ≤ _; exact Nat.le_of_eq rfl) (by decide) (by decide) (by decide) (by decide)
  obtain ⟨b102, g102⟩ : ∃ z, z = h0.size := ⟨_, rfl⟩
  rw [← g102] at A102 Y102 st102
  have gn102 : n0 ≤ b102 := Nat.le_trans Z0 (Nat.le_of_eq g102.symm)
  have ne102_a_VALUES : a_VALUES ≠ b102 := Nat.ne_of_lt (Nat.lt_of_lt_of_le V_VALUES.lt (Nat.le_of_eq g102.symm))
  have f103 : Sta Z h102 "com/example/chainmesh/chainmesh/Op" "$VALUES" "[Lcom/example/chainmesh/chainmesh/Op;" (.ref a_VALUES) := S_VALUES.ext E102
  have f104 : Arv Z h102 a_VALUES kA (.object "com/example/chainmesh/chainmesh/Op") (12 : Int32) [(.ref a_MEMBERS), (.ref a_PULL), (.ref a_STORE), (.ref a_READ), (.ref a_COUNT), (.ref a_JOIN), (.ref a_PING), (.ref a_CATCH_UP), (.ref a_HAND_OFF), (.ref a_LOAD), (.ref a_QUERY), (.ref a_STATUS)] .null := V_VALUES.ext E102
  have f105 : Exa Z h102 a_VALUES "[Lcom/example/chainmesh/chainmesh/Op;" := X_VALUES.ext E102
  have f106 : n0 ≤ h102.size := Nat.le_trans Z0 E102.1
  have VV102 : Arv Z h102 b102 kA (.object "com/example/chainmesh/chainmesh/Op") (12 : Int32) [(.ref a_MEMBERS), (.ref a_PULL), (.ref a_STORE), (.ref a_READ), (.ref a_COUNT), (.ref a_JOIN), (.ref a_PING), (.ref a_CATCH_UP), (.ref a_HAND_OFF), (.ref a_LOAD), (.ref a_QUERY), (.ref a_STATUS)] .null := A102
  refine EndsQ.go st102 ?_
  show EndsQ _ _ _ _ _ _ _ (T102.setTop (mkF m 6 #[] [(.ref b102)]))
  obtain ⟨T107, X107, e107, st107⟩ := castY X102 hx hZ hown (hw _ (List.mem_of_getElem? (i := 30) rfl)) e102 (Ins.self Y102) (g := (mkF m 6 #[] [(.ref b102)])) rfl rfl (hb hby d2_6)
  refine EndsQ.go st107 ?_
  show EndsQ _ _ _ _ _ _ _ (T107.setTop (mkF m 9 #[] [(.ref b102)]))
  refine EndsQ.retA X107 hx Bd.notSynchronized (w := (.ref b102)) Bd.returns rfl rfl rfl (hb hby d2_9) (by decide) (by decide) ?_
  show Q2 Z a_VALUES kA a_MEMBERS a_PULL a_STORE a_READ a_COUNT a_JOIN a_PING a_CATCH_UP a_HAND_OFF a_LOAD a_QUERY a_STATUS h0 n0 (some (.ref b102)) T107.heap _
  rw [e107]
  exact ⟨b102, rfl, N0, E102, gn102, VV102⟩
theorem ef_1 (m : MethodId) (x0 : Int32) : entryFrame m #[(.int x0)] 5 = mkF m 0 #[.val (.int x0), .unset, .unset, .unset, .unset] [] := by first | (simp [entryFrame, mkF, argsToLocals, Value.category]; done) | rfl
def Q1 (Z : State) (p1 : Int32) (a_VALUES : Addr) (kA : ClassId) (a_MEMBERS : Addr) (a_PULL : Addr) (a_STORE : Addr) (a_READ : Addr) (a_COUNT : Addr) (a_JOIN : Addr) (a_PING : Addr) (a_CATCH_UP : Addr) (a_HAND_OFF : Addr) (a_LOAD : Addr) (a_QUERY : Addr) (a_STATUS : Addr) (h0 : Heap) (n0 : Nat) (v : Option Value) (h : Heap) (L : List Loc) : Prop := v = some (.ref (own_of p1 a_MEMBERS a_PULL a_STORE a_READ a_COUNT a_JOIN a_PING a_CATCH_UP a_HAND_OFF a_LOAD a_QUERY a_STATUS)) ∧ Fr n0 L ∧ Ext h0 h
set_option maxRecDepth 65536 in
set_option maxHeartbeats 40000000 in
theorem rm1 (l : Launch) (Z : State) (a0 : Array Value) (hw : ∀ d ∈ tables_1, d.before a0 Z = true) (ws : List Jvm.Cond) (p1 : Int32) (a_VALUES : Addr) (kA : ClassId) (a_MEMBERS : Addr) (a_PULL : Addr) (a_STORE : Addr) (a_READ : Addr) (a_COUNT : Addr) (a_JOIN : Addr) (a_PING : Addr) (a_CATCH_UP : Addr) (a_HAND_OFF : Addr) (a_LOAD : Addr) (a_QUERY : Addr) (a_STATUS : Addr) (h0 : Heap) (n0 : Nat) (Z0 : n0 ≤ h0.size) (S_VALUES : Sta Z h0 "com/example/chainmesh/chainmesh/Op" "$VALUES" "[Lcom/example/chainmesh/chainmesh/Op;" (.ref a_VALUES)) (V_VALUES : Arv Z h0 a_VALUES kA (.object "com/example/chainmesh/chainmesh/Op") (12 : Int32) [(.ref a_MEMBERS), (.ref a_PULL), (.ref a_STORE), (.ref a_READ), (.ref a_COUNT), (.ref a_JOIN), (.ref a_PING), (.ref a_CATCH_UP), (.ref a_HAND_OFF), (.ref a_LOAD), (.ref a_QUERY), (.ref a_STATUS)] .null) (X_VALUES : Exa Z h0 a_VALUES "[Lcom/example/chainmesh/chainmesh/Op;") (F_MEMBERS_code : Fld Z h0 a_MEMBERS "com/example/chainmesh/chainmesh/Op" "code" "B" (.int (1 : Int32))) (F_PULL_code : Fld Z h0 a_PULL "com/example/chainmesh/chainmesh/Op" "code" "B" (.int (2 : Int32))) (F_STORE_code : Fld Z h0 a_STORE "com/example/chainmesh/chainmesh/Op" "code" "B" (.int (3 : Int32))) (F_READ_code : Fld Z h0 a_READ "com/example/chainmesh/chainmesh/Op" "code" "B" (.int (4 : Int32))) (F_COUNT_code : Fld Z h0 a_COUNT "com/example/chainmesh/chainmesh/Op" "code" "B" (.int (5 : Int32))) (F_JOIN_code : Fld Z h0 a_JOIN "com/example/chainmesh/chainmesh/Op" "code" "B" (.int (6 : Int32))) (F_PING_code : Fld Z h0 a_PING "com/example/chainmesh/chainmesh/Op" "code" "B" (.int (7 : Int32))) (F_CATCH_UP_code : Fld Z h0 a_CATCH_UP "com/example/chainmesh/chainmesh/Op" "code" "B" (.int (8 : Int32))) (F_HAND_OFF_code : Fld Z h0 a_HAND_OFF "com/example/chainmesh/chainmesh/Op" "code" "B" (.int (9 : Int32))) (F_LOAD_code : Fld Z h0 a_LOAD "com/example/chainmesh/chainmesh/Op" "code" "B" (.int (10 : Int32))) (F_QUERY_code : Fld Z h0 a_QUERY "com/example/chainmesh/chainmesh/Op" "code" "B" (.int (11 : Int32))) (F_STATUS_code : Fld Z h0 a_STATUS "com/example/chainmesh/chainmesh/Op" "code" "B" (.int (12 : Int32))) (hp : p1 = (1 : Int32) ∨ p1 = (2 : Int32) ∨ p1 = (3 : Int32) ∨ p1 = (4 : Int32) ∨ p1 = (5 : Int32) ∨ p1 = (6 : Int32) ∨ p1 = (7 : Int32) ∨ p1 = (8 : Int32) ∨ p1 = (9 : Int32) ∨ p1 = (10 : Int32) ∨ p1 = (11 : Int32) ∨ p1 = (12 : Int32)) :
    MetFree l (⟨"com/example/chainmesh/chainmesh/Op", "of", "(B)Lcom/example/chainmesh/chainmesh/Op;"⟩ : MethodName) (head1 (Jvm.Cond.code (⟨"com/example/chainmesh/chainmesh/Op", "of", "(B)Lcom/example/chainmesh/chainmesh/Op;"⟩ : MethodName) prog_31_method_5_code 5 (some (.object "com/example/chainmesh/chainmesh/Op")) :: ws) ({ frames := 2, cells := 1, slots := 12, locals := 32 } : Room)) (fun a U => a = #[(.int p1)] ∧ Z.Warmed39 U.vm ∧ U.heap = h0) (fun _ _ _ _ _ => True) (fun _ U o U' => ∃ v L, o = .returned v ∧ Q1 Z p1 a_VALUES kA a_MEMBERS a_PULL a_STORE a_READ a_COUNT a_JOIN a_PING a_CATCH_UP a_HAND_OFF a_LOAD a_QUERY a_STATUS h0 n0 v U'.heap L ∧ FrameEnd U o U' L ({ frames := 2, cells := 1, slots := 12, locals := 32 } : Room).cells ({ frames := 2, cells := 1, slots := 12, locals := 32 } : Room).slots) := by
  refine MetFree.of_bodySF (plainFor_of_name pn_1) hisR ?_
  intro p e s m args below meth c s₁ Bd hml0 hP hK
  obtain ⟨rfl, hZ, hh⟩ := hP
  have hx := Bd.exec
  have hby := Bd.bytes
  have hml : c.maxLocals = 5 := hml0
  have hown : s.vm.findClass "com/example/chainmesh/chainmesh/Op" = some m.cls := findClass_of_methodNamed Bd.named
  have hnm := (name_of_methodNamed Bd.named Bd.method).1
  have X0 : Stand p l e ({ frames := 2, cells := 1, slots := 12, locals := 32 } : Room) s m #[(.int p1)] below meth c s₁ [] 0 0 := Stand.of_body Bd
  have e0 : s₁.heap = h0 := by rw [← hh, Bd.state]; rfl
  have N0 := Fr.nil n0
  show EndsQ p.tables e below s (fun v h L => Q1 Z p1 a_VALUES kA a_MEMBERS a_PULL a_STORE a_READ a_COUNT a_JOIN a_PING a_CATCH_UP a_HAND_OFF a_LOAD a_QUERY a_STATUS h0 n0 v h L) ({ frames := 2, cells := 1, slots := 12, locals := 32 } : Room).cells ({ frames := 2, cells := 1, slots := 12, locals := 32 } : Room).slots _
  refine EndsQ.go (b := s₁.setTop (mkF m 0 #[.val (.int p1), .unset, .unset, .unset, .unset] [])) (fun t k => castTop (ef_1 m p1) k) ?_
  obtain ⟨_, _, ⟨T101, L101, kk101, nn101⟩, -, X101, ⟨Lc101, hQ101, l101, y101, z101⟩, st101⟩ := Jvm.LawKit.callS X0 hx (y := (⟨"com/example/chainmesh/chainmesh/Op", "values", "()[Lcom/example/chainmesh/chainmesh/Op;"⟩ : MethodName)) hown (mvT hZ (hw _ (List.mem_of_getElem? (i := 5) rfl))) (mvT hZ (hw _ (List.mem_of_getElem? (i := 6) rfl))) (mvT hZ (hw _ (List.mem_of_getElem? (i := 3) rfl))) (mvT hZ (hw _ (List.mem_of_getElem? (i := 7) rfl))) (by decide) (backOf (W := 0) (rm2 l Z a0 hw [] a_VALUES kA a_MEMBERS a_PULL a_STORE a_READ a_COUNT a_JOIN a_PING a_CATCH_UP a_HAND_OFF a_LOAD a_QUERY a_STATUS h0 n0 Z0 S_VALUES V_VALUES X_VALUES) hZ (hw _ (List.mem_of_getElem? (i := 7) rfl)) (hw _ (List.mem_of_getElem? (i := 3) rfl)) (by decide) (by decide)) (g := (mkF m 0 #[.val (.int p1), .unset, .unset, .unset, .unset] [])) rfl (by rw [hml]; rfl) (argsL := []) (rest := []) (lenOf pd_0 rfl) rfl (by show 2 * 0 + _ ≤ _; exact Nat.le_of_eq rfl) (hb hby d1_0) (fun _ _ => ⟨rfl, e0, (by decide : 0 + 1 ≤ _), (by decide : 0 + 12 ≤ _)⟩)
  dsimp only [Pt.U, Pt.locs, Pt.cells, Pt.slots] at X101 l101 y101 z101 st101 hQ101
  subst l101 y101 z101
  obtain ⟨v101, rfl, Nq101, E101, gb101, VA101⟩ := hQ101
  have N101 := Fr.app N0 Nq101
  have f102 : Sta Z T101.heap "com/example/chainmesh/chainmesh/Op" "$VALUES" "[Lcom/example/chainmesh/chainmesh/Op;" (.ref a_VALUES) := S_VALUES.ext E101
  have f103 : Arv Z T101.heap a_VALUES kA (.object "com/example/chainmesh/chainmesh/Op") (12 : Int32) [(.ref a_MEMBERS), (.ref a_PULL), (.ref a_STORE), (.ref a_READ), (.ref a_COUNT), (.ref a_JOIN), (.ref a_PING), (.ref a_CATCH_UP), (.ref a_HAND_OFF), (.ref a_LOAD), (.ref a_QUERY), (.ref a_STATUS)] .null := V_VALUES.ext E101
  have f104 : Exa Z T101.heap a_VALUES "[Lcom/example/chainmesh/chainmesh/Op;" := X_VALUES.ext E101
  have f105 : Fld Z T101.heap a_MEMBERS "com/example/chainmesh/chainmesh/Op" "code" "B" (.int (1 : Int32)) := F_MEMBERS_code.ext E101
  have f106 : Fld Z T101.heap a_PULL "com/example/chainmesh/chainmesh/Op" "code" "B" (.int (2 : Int32)) := F_PULL_code.ext E101
  have f107 : Fld Z T101.heap a_STORE "com/example/chainmesh/chainmesh/Op" "code" "B" (.int (3 : Int32)) := F_STORE_code.ext E101
  have f108 : Fld Z T101.heap a_READ "com/example/chainmesh/chainmesh/Op" "code" "B" (.int (4 : Int32)) := F_READ_code.ext E101
  have f109 : Fld Z T101.heap a_COUNT "com/example/chainmesh/chainmesh/Op" "code" "B" (.int (5 : Int32)) := F_COUNT_code.ext E101
  have f110 : Fld Z T101.heap a_JOIN "com/example/chainmesh/chainmesh/Op" "code" "B" (.int (6 : Int32)) := F_JOIN_code.ext E101
  have f111 : Fld Z T101.heap a_PING "com/example/chainmesh/chainmesh/Op" "code" "B" (.int (7 : Int32)) := F_PING_code.ext E101
  have f112 : Fld Z T101.heap a_CATCH_UP "com/example/chainmesh/chainmesh/Op" "code" "B" (.int (8 : Int32)) := F_CATCH_UP_code.ext E101
  have f113 : Fld Z T101.heap a_HAND_OFF "com/example/chainmesh/chainmesh/Op" "code" "B" (.int (9 : Int32)) := F_HAND_OFF_code.ext E101
  have f114 : Fld Z T101.heap a_LOAD "com/example/chainmesh/chainmesh/Op" "code" "B" (.int (10 : Int32)) := F_LOAD_code.ext E101
  have f115 : Fld Z T101.heap a_QUERY "com/example/chainmesh/chainmesh/Op" "code" "B" (.int (11 : Int32)) := F_QUERY_code.ext E101
  have f116 : Fld Z T101.heap a_STATUS "com/example/chainmesh/chainmesh/Op" "code" "B" (.int (12 : Int32)) := F_STATUS_code.ext E101
  have f117 : n0 ≤ T101.heap.size := Nat.le_trans Z0 E101.1
  refine EndsQ.go st101 ?_
  show EndsQ _ _ _ _ _ _ _ (T101.setTop (mkF m 3 #[.val (.int p1), .unset, .unset, .unset, .unset] [(.ref v101)]))
  refine EndsQ.go (b := T101.setTop (mkF m 5 #[.val (.int p1), .val (.ref v101), .unset, .unset, .unset] [(.ref v101)])) (fun t k => ?_) ?_
  · show Steps p.tables e below (T101.setTop (mkF m 3 #[.val (.int p1), .unset, .unset, .unset, .unset] [(.ref v101)])) _
    refine XS.astoreN X101.here hx rfl (hb hby d1_3) rfl rfl (l' := #[.val (.int p1), .val (.ref v101), .unset, .unset, .unset]) rfl ?_
    show Steps p.tables e below (T101.setTop (mkF m 4 #[.val (.int p1), .val (.ref v101), .unset, .unset, .unset] [])) _
    refine XS.aloadN X101.here hx rfl (hb hby d1_4) rfl rfl ?_
    show Steps p.tables e below (T101.setTop (mkF m 5 #[.val (.int p1), .val (.ref v101), .unset, .unset, .unset] [(.ref v101)])) _
    exact k
  obtain ⟨cl118, Ar118, -, S118, M118, -, -⟩ := id VA101
  refine EndsQ.go (fun t k => X101.arraylength hx Ar118.1 (State.isArrayOf_alike hZ.alike Ar118.2.1) (g := (mkF m 5 #[.val (.int p1), .val (.ref v101), .unset, .unset, .unset] [(.ref v101)])) rfl rfl (hb hby d1_5) _ k) ?_
  rw [len_of S118 M118]
  show EndsQ _ _ _ _ _ _ _ (T101.setTop (mkF m 6 #[.val (.int p1), .val (.ref v101), .unset, .unset, .unset] [(.int (12 : Int32))]))
  refine EndsQ.go (b := T101.setTop (mkF m 16 #[.val (.int p1), .val (.ref v101), .val (.int (12 : Int32)), .val (.int (0 : Int32)), .unset] [(.int (0 : Int32)), (.ref v101)])) (fun t k => ?_) ?_
  · show Steps p.tables e below (T101.setTop (mkF m 6 #[.val (.int p1), .val (.ref v101), .unset, .unset, .unset] [(.int (12 : Int32))])) _
    refine XS.istoreN X101.here hx rfl (hb hby d1_6) rfl (l' := #[.val (.int p1), .val (.ref v101), .val (.int (12 : Int32)), .unset, .unset]) rfl ?_
    show Steps p.tables e below (T101.setTop (mkF m 7 #[.val (.int p1), .val (.ref v101), .val (.int (12 : Int32)), .unset, .unset] [])) _
    refine XS.iconst X101.here hx rfl (hb hby d1_7) ?_
    show Steps p.tables e below (T101.setTop (mkF m 8 #[.val (.int p1), .val (.ref v101), .val (.int (12 : Int32)), .unset, .unset] [(.int (0 : Int32))])) _
    refine XS.istoreN X101.here hx rfl (hb hby d1_8) rfl (l' := #[.val (.int p1), .val (.ref v101), .val (.int (12 : Int32)), .val (.int (0 : Int32)), .unset]) rfl ?_
    show Steps p.tables e below (T101.setTop (mkF m 9 #[.val (.int p1), .val (.ref v101), .val (.int (12 : Int32)), .val (.int (0 : Int32)), .unset] [])) _
    refine XS.iloadN X101.here hx rfl (hb hby d1_9) rfl ?_
    show Steps p.tables e below (T101.setTop (mkF m 10 #[.val (.int p1), .val (.ref v101), .val (.int (12 : Int32)), .val (.int (0 : Int32)), .unset] [(.int (0 : Int32))])) _
    refine XS.iloadN X101.here hx rfl (hb hby d1_10) rfl ?_
    show Steps p.tables e below (T101.setTop (mkF m 11 #[.val (.int p1), .val (.ref v101), .val (.int (12 : Int32)), .val (.int (0 : Int32)), .unset] [(.int (12 : Int32)), (.int (0 : Int32))])) _
    refine XS.icmpNo X101.here hx rfl (hb hby d1_11) rfl (tlt (by decide)).2.1 ?_
    show Steps p.tables e below (T101.setTop (mkF m 14 #[.val (.int p1), .val (.ref v101), .val (.int (12 : Int32)), .val (.int (0 : Int32)), .unset] [])) _
    refine XS.aloadN X101.here hx rfl (hb hby d1_14) rfl rfl ?_
    show Steps p.tables e below (T101.setTop (mkF m 15 #[.val (.int p1), .val (.ref v101), .val (.int (12 : Int32)), .val (.int (0 : Int32)), .unset] [(.ref v101)])) _
    refine XS.iloadN X101.here hx rfl (hb hby d1_15) rfl ?_
    show Steps p.tables e below (T101.setTop (mkF m 16 #[.val (.int p1), .val (.ref v101), .val (.int (12 : Int32)), .val (.int (0 : Int32)), .unset] [(.int (0 : Int32)), (.ref v101)])) _
    exact k
  obtain ⟨cl119, Ar119, q119, S119, M119, H119, G119⟩ := id VA101
  have hin119 : ¬ ((0 : Int32) < 0 ∨ cl119.slots.size ≤ ((0 : Int32)).toNatClampNeg) := inb_of S119 ⟨by decide, by decide⟩
  have hat119 : cl119.slots[((0 : Int32)).toNatClampNeg]? = some (.ref a_MEMBERS) := Has.at H119 hin119 rfl
  refine EndsQ.go (fun t k => X101.aaload hx (j := (0 : Int32)) (v := (.ref a_MEMBERS)) Ar119.1 (State.isArrayOf_alike hZ.alike Ar119.2.1) rfl Ar119.2.2 hin119 hat119 (g := (mkF m 16 #[.val (.int p1), .val (.ref v101), .val (.int (12 : Int32)), .val (.int (0 : Int32)), .unset] [(.int (0 : Int32)), (.ref v101)])) rfl rfl (hb hby d1_16) _ k) ?_
  show EndsQ _ _ _ _ _ _ _ (T101.setTop (mkF m 17 #[.val (.int p1), .val (.ref v101), .val (.int (12 : Int32)), .val (.int (0 : Int32)), .unset] [(.ref a_MEMBERS)]))
  refine EndsQ.go (b := T101.setTop (mkF m 21 #[.val (.int p1), .val (.ref v101), .val (.int (12 : Int32)), .val (.int (0 : Int32)), .val (.ref a_MEMBERS)] [(.ref a_MEMBERS)])) (fun t k => ?_) ?_
  · show Steps p.tables e below (T101.setTop (mkF m 17 #[.val (.int p1), .val (.ref v101), .val (.int (12 : Int32)), .val (.int (0 : Int32)), .unset] [(.ref a_MEMBERS)])) _
    refine XS.astore X101.here hx rfl (hb hby d1_17) rfl rfl (l' := #[.val (.int p1), .val (.ref v101), .val (.int (12 : Int32)), .val (.int (0 : Int32)), .val (.ref a_MEMBERS)]) rfl ?_
    show Steps p.tables e below (T101.setTop (mkF m 19 #[.val (.int p1), .val (.ref v101), .val (.int (12 : Int32)), .val (.int (0 : Int32)), .val (.ref a_MEMBERS)] [])) _
    refine XS.aload X101.here hx rfl (hb hby d1_19) rfl rfl ?_
    show Steps p.tables e below (T101.setTop (mkF m 21 #[.val (.int p1), .val (.ref v101), .val (.int (12 : Int32)), .val (.int (0 : Int32)), .val (.ref a_MEMBERS)] [(.ref a_MEMBERS)])) _
    exact k
  obtain ⟨T120, X120, e120, st120⟩ := getF X101 hx hZ hown (host := "") (Or.inl (hw _ (List.mem_of_getElem? (i := 32) rfl))) Via.refl rfl f105 (g := (mkF m 21 #[.val (.int p1), .val (.ref v101), .val (.int (12 : Int32)), .val (.int (0 : Int32)), .val (.ref a_MEMBERS)] [(.ref a_MEMBERS)])) rfl rfl (hb hby d1_21)
  refine EndsQ.go st120 ?_
  show EndsQ _ _ _ _ _ _ _ (T120.setTop (mkF m 24 #[.val (.int p1), .val (.ref v101), .val (.int (12 : Int32)), .val (.int (0 : Int32)), .val (.ref a_MEMBERS)] [(.int (1 : Int32))]))
  refine EndsQ.go (b := T120.setTop (mkF m 25 #[.val (.int p1), .val (.ref v101), .val (.int (12 : Int32)), .val (.int (0 : Int32)), .val (.ref a_MEMBERS)] [(.int p1), (.int (1 : Int32))])) (fun t k => ?_) ?_
  · show Steps p.tables e below (T120.setTop (mkF m 24 #[.val (.int p1), .val (.ref v101), .val (.int (12 : Int32)), .val (.int (0 : Int32)), .val (.ref a_MEMBERS)] [(.int (1 : Int32))])) _
    refine XS.iloadN X120.here hx rfl (hb hby d1_24) rfl ?_
    show Steps p.tables e below (T120.setTop (mkF m 25 #[.val (.int p1), .val (.ref v101), .val (.int (12 : Int32)), .val (.int (0 : Int32)), .val (.ref a_MEMBERS)] [(.int p1), (.int (1 : Int32))])) _
    exact k
  by_cases hc25_121 : (1 : Int32) = p1
  · refine EndsQ.go (b := T120.setTop (mkF m 28 #[.val (.int p1), .val (.ref v101), .val (.int (12 : Int32)), .val (.int (0 : Int32)), .val (.ref a_MEMBERS)] [])) (fun t k => ?_) ?_
    · show Steps p.tables e below (T120.setTop (mkF m 25 #[.val (.int p1), .val (.ref v101), .val (.int (12 : Int32)), .val (.int (0 : Int32)), .val (.ref a_MEMBERS)] [(.int p1), (.int (1 : Int32))])) _
      refine XS.icmpNo X120.here hx rfl (hb hby d1_25) rfl (teq hc25_121).2 ?_
      show Steps p.tables e below (T120.setTop (mkF m 28 #[.val (.int p1), .val (.ref v101), .val (.int (12 : Int32)), .val (.int (0 : Int32)), .val (.ref a_MEMBERS)] [])) _
      exact k
    refine EndsQ.go (b := T120.setTop (mkF m 30 #[.val (.int p1), .val (.ref v101), .val (.int (12 : Int32)), .val (.int (0 : Int32)), .val (.ref a_MEMBERS)] [(.ref a_MEMBERS)])) (fun t k => ?_) ?_
    · show Steps p.tables e below (T120.setTop (mkF m 28 #[.val (.int p1), .val (.ref v101), .val (.int (12 : Int32)), .val (.int (0 : Int32)), .val (.ref a_MEMBERS)] [])) _
      refine XS.aload X120.here hx rfl (hb hby d1_28) rfl rfl ?_
      show Steps p.tables e below (T120.setTop (mkF m 30 #[.val (.int p1), .val (.ref v101), .val (.int (12 : Int32)), .val (.int (0 : Int32)), .val (.ref a_MEMBERS)] [(.ref a_MEMBERS)])) _
      exact k
    refine EndsQ.retA X120 hx Bd.notSynchronized (w := (.ref a_MEMBERS)) Bd.returns rfl rfl rfl (hb hby d1_30) (by decide) (by decide) ?_
    show Q1 Z p1 a_VALUES kA a_MEMBERS a_PULL a_STORE a_READ a_COUNT a_JOIN a_PING a_CATCH_UP a_HAND_OFF a_LOAD a_QUERY a_STATUS h0 n0 (some (.ref a_MEMBERS)) T120.heap _
    rw [e120]
    exact ⟨by unfold own_of; rw [if_pos hc25_121], N101, E101⟩
  · refine EndsQ.go (b := T120.setTop (mkF m 31 #[.val (.int p1), .val (.ref v101), .val (.int (12 : Int32)), .val (.int (0 : Int32)), .val (.ref a_MEMBERS)] [])) (fun t k => ?_) ?_
    · show Steps p.tables e below (T120.setTop (mkF m 25 #[.val (.int p1), .val (.ref v101), .val (.int (12 : Int32)), .val (.int (0 : Int32)), .val (.ref a_MEMBERS)] [(.int p1), (.int (1 : Int32))])) _
      refine XS.icmpYes X120.here hx rfl (pc0 := 25) (pc' := 31) rfl (hb hby d1_25) rfl (feq hc25_121).2 (by decide) (by decide) ?_
      show Steps p.tables e below (T120.setTop (mkF m 31 #[.val (.int p1), .val (.ref v101), .val (.int (12 : Int32)), .val (.int (0 : Int32)), .val (.ref a_MEMBERS)] [])) _
      exact k
    refine EndsQ.go (b := T120.setTop (mkF m 16 #[.val (.int p1), .val (.ref v101), .val (.int (12 : Int32)), .val (.int (1 : Int32)), .val (.ref a_MEMBERS)] [(.int (1 : Int32)), (.ref v101)])) (fun t k => ?_) ?_
    · show Steps p.tables e below (T120.setTop (mkF m 31 #[.val (.int p1), .val (.ref v101), .val (.int (12 : Int32)), .val (.int (0 : Int32)), .val (.ref a_MEMBERS)] [])) _
      refine XS.iinc X120.here hx rfl (hb hby d1_31) rfl (l' := #[.val (.int p1), .val (.ref v101), .val (.int (12 : Int32)), .val (.int ((0 : Int32) + Int32.ofInt 1)), .val (.ref a_MEMBERS)]) rfl ?_
      show Steps p.tables e below (T120.setTop (mkF m 34 #[.val (.int p1), .val (.ref v101), .val (.int (12 : Int32)), .val (.int ((0 : Int32) + Int32.ofInt 1)), .val (.ref a_MEMBERS)] [])) _
      rw [(by decide : ((0 : Int32) + Int32.ofInt 1) = (1 : Int32))]
      show Steps p.tables e below (T120.setTop (mkF m 34 #[.val (.int p1), .val (.ref v101), .val (.int (12 : Int32)), .val (.int (1 : Int32)), .val (.ref a_MEMBERS)] [])) _
      refine XS.goto X120.here hx rfl (pc0 := 34) (pc' := 9) rfl (hb hby d1_34) (by decide) (by decide) ?_
      show Steps p.tables e below (T120.setTop (mkF m 9 #[.val (.int p1), .val (.ref v101), .val (.int (12 : Int32)), .val (.int (1 : Int32)), .val (.ref a_MEMBERS)] [])) _
      refine XS.iloadN X120.here hx rfl (hb hby d1_9) rfl ?_
      show Steps p.tables e below (T120.setTop (mkF m 10 #[.val (.int p1), .val (.ref v101), .val (.int (12 : Int32)), .val (.int (1 : Int32)), .val (.ref a_MEMBERS)] [(.int (1 : Int32))])) _
      refine XS.iloadN X120.here hx rfl (hb hby d1_10) rfl ?_
      show Steps p.tables e below (T120.setTop (mkF m 11 #[.val (.int p1), .val (.ref v101), .val (.int (12 : Int32)), .val (.int (1 : Int32)), .val (.ref a_MEMBERS)] [(.int (12 : Int32)), (.int (1 : Int32))])) _
      refine XS.icmpNo X120.here hx rfl (hb hby d1_11) rfl (tlt (by decide)).2.1 ?_
      show Steps p.tables e below (T120.setTop (mkF m 14 #[.val (.int p1), .val (.ref v101), .val (.int (12 : Int32)), .val (.int (1 : Int32)), .val (.ref a_MEMBERS)] [])) _
      refine XS.aloadN X120.here hx rfl (hb hby d1_14) rfl rfl ?_
      show Steps p.tables e below (T120.setTop (mkF m 15 #[.val (.int p1), .val (.ref v101), .val (.int (12 : Int32)), .val (.int (1 : Int32)), .val (.ref a_MEMBERS)] [(.ref v101)])) _
      refine XS.iloadN X120.here hx rfl (hb hby d1_15) rfl ?_
      show Steps p.tables e below (T120.setTop (mkF m 16 #[.val (.int p1), .val (.ref v101), .val (.int (12 : Int32)), .val (.int (1 : Int32)), .val (.ref a_MEMBERS)] [(.int (1 : Int32)), (.ref v101)])) _
      exact k
    obtain ⟨cl122, Ar122, q122, S122, M122, H122, G122⟩ := id VA101
    have hin122 : ¬ ((1 : Int32) < 0 ∨ cl122.slots.size ≤ ((1 : Int32)).toNatClampNeg) := inb_of S122 ⟨by decide, by decide⟩
    have hat122 : cl122.slots[((1 : Int32)).toNatClampNeg]? = some (.ref a_PULL) := Has.at H122 hin122 rfl
    refine EndsQ.go (fun t k => X120.aaload hx (j := (1 : Int32)) (v := (.ref a_PULL)) (by rw [e120]; exact Ar122.1) (State.isArrayOf_alike hZ.alike Ar122.2.1) rfl Ar122.2.2 hin122 hat122 (g := (mkF m 16 #[.val (.int p1), .val (.ref v101), .val (.int (12 : Int32)), .val (.int (1 : Int32)), .val (.ref a_MEMBERS)] [(.int (1 : Int32)), (.ref v101)])) rfl rfl (hb hby d1_16) _ k) ?_
    show EndsQ _ _ _ _ _ _ _ (T120.setTop (mkF m 17 #[.val (.int p1), .val (.ref v101), .val (.int (12 : Int32)), .val (.int (1 : Int32)), .val (.ref a_MEMBERS)] [(.ref a_PULL)]))
    refine EndsQ.go (b := T120.setTop (mkF m 21 #[.val (.int p1), .val (.ref v101), .val (.int (12 : Int32)), .val (.int (1 : Int32)), .val (.ref a_PULL)] [(.ref a_PULL)])) (fun t k => ?_) ?_
    · show Steps p.tables e below (T120.setTop (mkF m 17 #[.val (.int p1), .val (.ref v101), .val (.int (12 : Int32)), .val (.int (1 : Int32)), .val (.ref a_MEMBERS)] [(.ref a_PULL)])) _
      refine XS.astore X120.here hx rfl (hb hby d1_17) rfl rfl (l' := #[.val (.int p1), .val (.ref v101), .val (.int (12 : Int32)), .val (.int (1 : Int32)), .val (.ref a_PULL)]) rfl ?_
      show Steps p.tables e below (T120.setTop (mkF m 19 #[.val (.int p1), .val (.ref v101), .val (.int (12 : Int32)), .val (.int (1 : Int32)), .val (.ref a_PULL)] [])) _
      refine XS.aload X120.here hx rfl (hb hby d1_19) rfl rfl ?_
      show Steps p.tables e below (T120.setTop (mkF m 21 #[.val (.int p1), .val (.ref v101), .val (.int (12 : Int32)), .val (.int (1 : Int32)), .val (.ref a_PULL)] [(.ref a_PULL)])) _
      exact k
    obtain ⟨T123, X123, e123, st123⟩ := getF X120 hx hZ hown (host := "") (Or.inl (hw _ (List.mem_of_getElem? (i := 32) rfl))) Via.refl e120 f106 (g := (mkF m 21 #[.val (.int p1), .val (.ref v101), .val (.int (12 : Int32)), .val (.int (1 : Int32)), .val (.ref a_PULL)] [(.ref a_PULL)])) rfl rfl (hb hby d1_21)
    refine EndsQ.go st123 ?_
    show EndsQ _ _ _ _ _ _ _ (T123.setTop (mkF m 24 #[.val (.int p1), .val (.ref v101), .val (.int (12 : Int32)), .val (.int (1 : Int32)), .val (.ref a_PULL)] [(.int (2 : Int32))]))
    refine EndsQ.go (b := T123.setTop (mkF m 25 #[.val (.int p1), .val (.ref v101), .val (.int (12 : Int32)), .val (.int (1 : Int32)), .val (.ref a_PULL)] [(.int p1), (.int (2 : Int32))])) (fun t k => ?_) ?_
    · show Steps p.tables e below (T123.setTop (mkF m 24 #[.val (.int p1), .val (.ref v101), .val (.int (12 : Int32)), .val (.int (1 : Int32)), .val (.ref a_PULL)] [(.int (2 : Int32))])) _
      refine XS.iloadN X123.here hx rfl (hb hby d1_24) rfl ?_
      show Steps p.tables e below (T123.setTop (mkF m 25 #[.val (.int p1), .val (.ref v101), .val (.int (12 : Int32)), .val (.int (1 : Int32)), .val (.ref a_PULL)] [(.int p1), (.int (2 : Int32))])) _
      exact k
    by_cases hc25_124 : (2 : Int32) = p1
    · refine EndsQ.go (b := T123.setTop (mkF m 28 #[.val (.int p1), .val (.ref v101), .val (.int (12 : Int32)), .val (.int (1 : Int32)), .val (.ref a_PULL)] [])) (fun t k => ?_) ?_
      · show Steps p.tables e below (T123.setTop (mkF m 25 #[.val (.int p1), .val (.ref v101), .val (.int (12 : Int32)), .val (.int (1 : Int32)), .val (.ref a_PULL)] [(.int p1), (.int (2 : Int32))])) _
        refine XS.icmpNo X123.here hx rfl (hb hby d1_25) rfl (teq hc25_124).2 ?_
        show Steps p.tables e below (T123.setTop (mkF m 28 #[.val (.int p1), .val (.ref v101), .val (.int (12 : Int32)), .val (.int (1 : Int32)), .val (.ref a_PULL)] [])) _
        exact k
      refine EndsQ.go (b := T123.setTop (mkF m 30 #[.val (.int p1), .val (.ref v101), .val (.int (12 : Int32)), .val (.int (1 : Int32)), .val (.ref a_PULL)] [(.ref a_PULL)])) (fun t k => ?_) ?_
      · show Steps p.tables e below (T123.setTop (mkF m 28 #[.val (.int p1), .val (.ref v101), .val (.int (12 : Int32)), .val (.int (1 : Int32)), .val (.ref a_PULL)] [])) _
        refine XS.aload X123.here hx rfl (hb hby d1_28) rfl rfl ?_
        show Steps p.tables e below (T123.setTop (mkF m 30 #[.val (.int p1), .val (.ref v101), .val (.int (12 : Int32)), .val (.int (1 : Int32)), .val (.ref a_PULL)] [(.ref a_PULL)])) _
        exact k
      refine EndsQ.retA X123 hx Bd.notSynchronized (w := (.ref a_PULL)) Bd.returns rfl rfl rfl (hb hby d1_30) (by decide) (by decide) ?_
      show Q1 Z p1 a_VALUES kA a_MEMBERS a_PULL a_STORE a_READ a_COUNT a_JOIN a_PING a_CATCH_UP a_HAND_OFF a_LOAD a_QUERY a_STATUS h0 n0 (some (.ref a_PULL)) T123.heap _
      rw [e123]
      exact ⟨by unfold own_of; rw [if_neg hc25_121, if_pos hc25_124], N101, E101⟩
    · refine EndsQ.go (b := T123.setTop (mkF m 31 #[.val (.int p1), .val (.ref v101), .val (.int (12 : Int32)), .val (.int (1 : Int32)), .val (.ref a_PULL)] [])) (fun t k => ?_) ?_
      · show Steps p.tables e below (T123.setTop (mkF m 25 #[.val (.int p1), .val (.ref v101), .val (.int (12 : Int32)), .val (.int (1 : Int32)), .val (.ref a_PULL)] [(.int p1), (.int (2 : Int32))])) _
        refine XS.icmpYes X123.here hx rfl (pc0 := 25) (pc' := 31) rfl (hb hby d1_25) rfl (feq hc25_124).2 (by decide) (by decide) ?_
        show Steps p.tables e below (T123.setTop (mkF m 31 #[.val (.int p1), .val (.ref v101), .val (.int (12 : Int32)), .val (.int (1 : Int32)), .val (.ref a_PULL)] [])) _
        exact k
      refine EndsQ.go (b := T123.setTop (mkF m 16 #[.val (.int p1), .val (.ref v101), .val (.int (12 : Int32)), .val (.int (2 : Int32)), .val (.ref a_PULL)] [(.int (2 : Int32)), (.ref v101)])) (fun t k => ?_) ?_
      · show Steps p.tables e below (T123.setTop (mkF m 31 #[.val (.int p1), .val (.ref v101), .val (.int (12 : Int32)), .val (.int (1 : Int32)), .val (.ref a_PULL)] [])) _
        refine XS.iinc X123.here hx rfl (hb hby d1_31) rfl (l' := #[.val (.int p1), .val (.ref v101), .val (.int (12 : Int32)), .val (.int ((1 : Int32) + Int32.ofInt 1)), .val (.ref a_PULL)]) rfl ?_
        show Steps p.tables e below (T123.setTop (mkF m 34 #[.val (.int p1), .val (.ref v101), .val (.int (12 : Int32)), .val (.int ((1 : Int32) + Int32.ofInt 1)), .val (.ref a_PULL)] [])) _
        rw [(by decide : ((1 : Int32) + Int32.ofInt 1) = (2 : Int32))]
        show Steps p.tables e below (T123.setTop (mkF m 34 #[.val (.int p1), .val (.ref v101), .val (.int (12 : Int32)), .val (.int (2 : Int32)), .val (.ref a_PULL)] [])) _
        refine XS.goto X123.here hx rfl (pc0 := 34) (pc' := 9) rfl (hb hby d1_34) (by decide) (by decide) ?_
        show Steps p.tables e below (T123.setTop (mkF m 9 #[.val (.int p1), .val (.ref v101), .val (.int (12 : Int32)), .val (.int (2 : Int32)), .val (.ref a_PULL)] [])) _
        refine XS.iloadN X123.here hx rfl (hb hby d1_9) rfl ?_
        show Steps p.tables e below (T123.setTop (mkF m 10 #[.val (.int p1), .val (.ref v101), .val (.int (12 : Int32)), .val (.int (2 : Int32)), .val (.ref a_PULL)] [(.int (2 : Int32))])) _
        refine XS.iloadN X123.here hx rfl (hb hby d1_10) rfl ?_
        show Steps p.tables e below (T123.setTop (mkF m 11 #[.val (.int p1), .val (.ref v101), .val (.int (12 : Int32)), .val (.int (2 : Int32)), .val (.ref a_PULL)] [(.int (12 : Int32)), (.int (2 : Int32))])) _
        refine XS.icmpNo X123.here hx rfl (hb hby d1_11) rfl (tlt (by decide)).2.1 ?_
        show Steps p.tables e below (T123.setTop (mkF m 14 #[.val (.int p1), .val (.ref v101), .val (.int (12 : Int32)), .val (.int (2 : Int32)), .val (.ref a_PULL)] [])) _
        refine XS.aloadN X123.here hx rfl (hb hby d1_14) rfl rfl ?_
        show Steps p.tables e below (T123.setTop (mkF m 15 #[.val (.int p1), .val (.ref v101), .val (.int (12 : Int32)), .val (.int (2 : Int32)), .val (.ref a_PULL)] [(.ref v101)])) _
        refine XS.iloadN X123.here hx rfl (hb hby d1_15) rfl ?_
        show Steps p.tables e below (T123.setTop (mkF m 16 #[.val (.int p1), .val (.ref v101), .val (.int (12 : Int32)), .val (.int (2 : Int32)), .val (.ref a_PULL)] [(.int (2 : Int32)), (.ref v101)])) _
        exact k
      obtain ⟨cl125, Ar125, q125, S125, M125, H125, G125⟩ := id VA101
      have hin125 : ¬ ((2 : Int32) < 0 ∨ cl125.slots.size ≤ ((2 : Int32)).toNatClampNeg) := inb_of S125 ⟨by decide, by decide⟩
      have hat125 : cl125.slots[((2 : Int32)).toNatClampNeg]? = some (.ref a_STORE) := Has.at H125 hin125 rfl
      refine EndsQ.go (fun t k => X123.aaload hx (j := (2 : Int32)) (v := (.ref a_STORE)) (by rw [e123]; exact Ar125.1) (State.isArrayOf_alike hZ.alike Ar125.2.1) rfl Ar125.2.2 hin125 hat125 (g := (mkF m 16 #[.val (.int p1), .val (.ref v101), .val (.int (12 : Int32)), .val (.int (2 : Int32)), .val (.ref a_PULL)] [(.int (2 : Int32)), (.ref v101)])) rfl rfl (hb hby d1_16) _ k) ?_
      show EndsQ _ _ _ _ _ _ _ (T123.setTop (mkF m 17 #[.val (.int p1), .val (.ref v101), .val (.int (12 : Int32)), .val (.int (2 : Int32)), .val (.ref a_PULL)] [(.ref a_STORE)]))
      refine EndsQ.go (b := T123.setTop (mkF m 21 #[.val (.int p1), .val (.ref v101), .val (.int (12 : Int32)), .val (.int (2 : Int32)), .val (.ref a_STORE)] [(.ref a_STORE)])) (fun t k => ?_) ?_
      · show Steps p.tables e below (T123.setTop (mkF m 17 #[.val (.int p1), .val (.ref v101), .val (.int (12 : Int32)), .val (.int (2 : Int32)), .val (.ref a_PULL)] [(.ref a_STORE)])) _
        refine XS.astore X123.here hx rfl (hb hby d1_17) rfl rfl (l' := #[.val (.int p1), .val (.ref v101), .val (.int (12 : Int32)), .val (.int (2 : Int32)), .val (.ref a_STORE)]) rfl ?_
        show Steps p.tables e below (T123.setTop (mkF m 19 #[.val (.int p1), .val (.ref v101), .val (.int (12 : Int32)), .val (.int (2 : Int32)), .val (.ref a_STORE)] [])) _
        refine XS.aload X123.here hx rfl (hb hby d1_19) rfl rfl ?_
        show Steps p.tables e below (T123.setTop (mkF m 21 #[.val (.int p1), .val (.ref v101), .val (.int (12 : Int32)), .val (.int (2 : Int32)), .val (.ref a_STORE)] [(.ref a_STORE)])) _
        exact k
      obtain ⟨T126, X126, e126, st126⟩ := getF X123 hx hZ hown (host := "") (Or.inl (hw _ (List.mem_of_getElem? (i := 32) rfl))) Via.refl e123 f107 (g := (mkF m 21 #[.val (.int p1), .val (.ref v101), .val (.int (12 : Int32)), .val (.int (2 : Int32)), .val (.ref a_STORE)] [(.ref a_STORE)])) rfl rfl (hb hby d1_21)
      refine EndsQ.go st126 ?_
      show EndsQ _ _ _ _ _ _ _ (T126.setTop (mkF m 24 #[.val (.int p1), .val (.ref v101), .val (.int (12 : Int32)), .val (.int (2 : Int32)), .val (.ref a_STORE)] [(.int (3 : Int32))]))
      refine EndsQ.go (b := T126.setTop (mkF m 25 #[.val (.int p1), .val (.ref v101), .val (.int (12 : Int32)), .val (.int (2 : Int32)), .val (.ref a_STORE)] [(.int p1), (.int (3 : Int32))])) (fun t k => ?_) ?_
      · show Steps p.tables e below (T126.setTop (mkF m 24 #[.val (.int p1), .val (.ref v101), .val (.int (12 : Int32)), .val (.int (2 : Int32)), .val (.ref a_STORE)] [(.int (3 : Int32))])) _
        refine XS.iloadN X126.here hx rfl (hb hby d1_24) rfl ?_
        show Steps p.tables e below (T126.setTop (mkF m 25 #[.val (.int p1), .val (.ref v101), .val (.int (12 : Int32)), .val (.int (2 : Int32)), .val (.ref a_STORE)] [(.int p1), (.int (3 : Int32))])) _
        exact k
      by_cases hc25_127 : (3 : Int32) = p1
      · refine EndsQ.go (b := T126.setTop (mkF m 28 #[.val (.int p1), .val (.ref v101), .val (.int (12 : Int32)), .val (.int (2 : Int32)), .val (.ref a_STORE)] [])) (fun t k => ?_) ?_
        · show Steps p.tables e below (T126.setTop (mkF m 25 #[.val (.int p1), .val (.ref v101), .val (.int (12 : Int32)), .val (.int (2 : Int32)), .val (.ref a_STORE)] [(.int p1), (.int (3 : Int32))])) _
          refine XS.icmpNo X126.here hx rfl (hb hby d1_25) rfl (teq hc25_127).2 ?_
          show Steps p.tables e below (T126.setTop (mkF m 28 #[.val (.int p1), .val (.ref v101), .val (.int (12 : Int32)), .val (.int (2 : Int32)), .val (.ref a_STORE)] [])) _
          exact k
        refine EndsQ.go (b := T126.setTop (mkF m 30 #[.val (.int p1), .val (.ref v101), .val (.int (12 : Int32)), .val (.int (2 : Int32)), .val (.ref a_STORE)] [(.ref a_STORE)])) (fun t k => ?_) ?_
        · show Steps p.tables e below (T126.setTop (mkF m 28 #[.val (.int p1), .val (.ref v101), .val (.int (12 : Int32)), .val (.int (2 : Int32)), .val (.ref a_STORE)] [])) _
          refine XS.aload X126.here hx rfl (hb hby d1_28) rfl rfl ?_
          show Steps p.tables e below (T126.setTop (mkF m 30 #[.val (.int p1), .val (.ref v101), .val (.int (12 : Int32)), .val (.int (2 : Int32)), .val (.ref a_STORE)] [(.ref a_STORE)])) _
          exact k
        refine EndsQ.retA X126 hx Bd.notSynchronized (w := (.ref a_STORE)) Bd.returns rfl rfl rfl (hb hby d1_30) (by decide) (by decide) ?_
        show Q1 Z p1 a_VALUES kA a_MEMBERS a_PULL a_STORE a_READ a_COUNT a_JOIN a_PING a_CATCH_UP a_HAND_OFF a_LOAD a_QUERY a_STATUS h0 n0 (some (.ref a_STORE)) T126.heap _
        rw [e126]
        exact ⟨by unfold own_of; rw [if_neg hc25_121, if_neg hc25_124, if_pos hc25_127], N101, E101⟩
      · refine EndsQ.go (b := T126.setTop (mkF m 31 #[.val (.int p1), .val (.ref v101), .val (.int (12 : Int32)), .val (.int (2 : Int32)), .val (.ref a_STORE)] [])) (fun t k => ?_) ?_
        · show Steps p.tables e below (T126.setTop (mkF m 25 #[.val (.int p1), .val (.ref v101), .val (.int (12 : Int32)), .val (.int (2 : Int32)), .val (.ref a_STORE)] [(.int p1), (.int (3 : Int32))])) _
          refine XS.icmpYes X126.here hx rfl (pc0 := 25) (pc' := 31) rfl (hb hby d1_25) rfl (feq hc25_127).2 (by decide) (by decide) ?_
          show Steps p.tables e below (T126.setTop (mkF m 31 #[.val (.int p1), .val (.ref v101), .val (.int (12 : Int32)), .val (.int (2 : Int32)), .val (.ref a_STORE)] [])) _
          exact k
        refine EndsQ.go (b := T126.setTop (mkF m 16 #[.val (.int p1), .val (.ref v101), .val (.int (12 : Int32)), .val (.int (3 : Int32)), .val (.ref a_STORE)] [(.int (3 : Int32)), (.ref v101)])) (fun t k => ?_) ?_
        · show Steps p.tables e below (T126.setTop (mkF m 31 #[.val (.int p1), .val (.ref v101), .val (.int (12 : Int32)), .val (.int (2 : Int32)), .val (.ref a_STORE)] [])) _
          refine XS.iinc X126.here hx rfl (hb hby d1_31) rfl (l' := #[.val (.int p1), .val (.ref v101), .val (.int (12 : Int32)), .val (.int ((2 : Int32) + Int32.ofInt 1)), .val (.ref a_STORE)]) rfl ?_
          show Steps p.tables e below (T126.setTop (mkF m 34 #[.val (.int p1), .val (.ref v101), .val (.int (12 : Int32)), .val (.int ((2 : Int32) + Int32.ofInt 1)), .val (.ref a_STORE)] [])) _
          rw [(by decide : ((2 : Int32) + Int32.ofInt 1) = (3 : Int32))]
          show Steps p.tables e below (T126.setTop (mkF m 34 #[.val (.int p1), .val (.ref v101), .val (.int (12 : Int32)), .val (.int (3 : Int32)), .val (.ref a_STORE)] [])) _
          refine XS.goto X126.here hx rfl (pc0 := 34) (pc' := 9) rfl (hb hby d1_34) (by decide) (by decide) ?_
          show Steps p.tables e below (T126.setTop (mkF m 9 #[.val (.int p1), .val (.ref v101), .val (.int (12 : Int32)), .val (.int (3 : Int32)), .val (.ref a_STORE)] [])) _
          refine XS.iloadN X126.here hx rfl (hb hby d1_9) rfl ?_
          show Steps p.tables e below (T126.setTop (mkF m 10 #[.val (.int p1), .val (.ref v101), .val (.int (12 : Int32)), .val (.int (3 : Int32)), .val (.ref a_STORE)] [(.int (3 : Int32))])) _
          refine XS.iloadN X126.here hx rfl (hb hby d1_10) rfl ?_
          show Steps p.tables e below (T126.setTop (mkF m 11 #[.val (.int p1), .val (.ref v101), .val (.int (12 : Int32)), .val (.int (3 : Int32)), .val (.ref a_STORE)] [(.int (12 : Int32)), (.int (3 : Int32))])) _
          refine XS.icmpNo X126.here hx rfl (hb hby d1_11) rfl (tlt (by decide)).2.1 ?_
          show Steps p.tables e below (T126.setTop (mkF m 14 #[.val (.int p1), .val (.ref v101), .val (.int (12 : Int32)), .val (.int (3 : Int32)), .val (.ref a_STORE)] [])) _
          refine XS.aloadN X126.here hx rfl (hb hby d1_14) rfl rfl ?_
          show Steps p.tables e below (T126.setTop (mkF m 15 #[.val (.int p1), .val (.ref v101), .val (.int (12 : Int32)), .val (.int (3 : Int32)), .val (.ref a_STORE)] [(.ref v101)])) _
          refine XS.iloadN X126.here hx rfl (hb hby d1_15) rfl ?_
          show Steps p.tables e below (T126.setTop (mkF m 16 #[.val (.int p1), .val (.ref v101), .val (.int (12 : Int32)), .val (.int (3 : Int32)), .val (.ref a_STORE)] [(.int (3 : Int32)), (.ref v101)])) _
          exact k
        obtain ⟨cl128, Ar128, q128, S128, M128, H128, G128⟩ := id VA101
        have hin128 : ¬ ((3 : Int32) < 0 ∨ cl128.slots.size ≤ ((3 : Int32)).toNatClampNeg) := inb_of S128 ⟨by decide, by decide⟩
        have hat128 : cl128.slots[((3 : Int32)).toNatClampNeg]? = some (.ref a_READ) := Has.at H128 hin128 rfl
        refine EndsQ.go (fun t k => X126.aaload hx (j := (3 : Int32)) (v := (.ref a_READ)) (by rw [e126]; exact Ar128.1) (State.isArrayOf_alike hZ.alike Ar128.2.1) rfl Ar128.2.2 hin128 hat128 (g := (mkF m 16 #[.val (.int p1), .val (.ref v101), .val (.int (12 : Int32)), .val (.int (3 : Int32)), .val (.ref a_STORE)] [(.int (3 : Int32)), (.ref v101)])) rfl rfl (hb hby d1_16) _ k) ?_
        show EndsQ _ _ _ _ _ _ _ (T126.setTop (mkF m 17 #[.val (.int p1), .val (.ref v101), .val (.int (12 : Int32)), .val (.int (3 : Int32)), .val (.ref a_STORE)] [(.ref a_READ)]))
        refine EndsQ.go (b := T126.setTop (mkF m 21 #[.val (.int p1), .val (.ref v101), .val (.int (12 : Int32)), .val (.int (3 : Int32)), .val (.ref a_READ)] [(.ref a_READ)])) (fun t k => ?_) ?_
        · show Steps p.tables e below (T126.setTop (mkF m 17 #[.val (.int p1), .val (.ref v101), .val (.int (12 : Int32)), .val (.int (3 : Int32)), .val (.ref a_STORE)] [(.ref a_READ)])) _
          refine XS.astore X126.here hx rfl (hb hby d1_17) rfl rfl (l' := #[.val (.int p1), .val (.ref v101), .val (.int (12 : Int32)), .val (.int (3 : Int32)), .val (.ref a_READ)]) rfl ?_
          show Steps p.tables e below (T126.setTop (mkF m 19 #[.val (.int p1), .val (.ref v101), .val (.int (12 : Int32)), .val (.int (3 : Int32)), .val (.ref a_READ)] [])) _
          refine XS.aload X126.here hx rfl (hb hby d1_19) rfl rfl ?_
          show Steps p.tables e below (T126.setTop (mkF m 21 #[.val (.int p1), .val (.ref v101), .val (.int (12 : Int32)), .val (.int (3 : Int32)), .val (.ref a_READ)] [(.ref a_READ)])) _
          exact k
        obtain ⟨T129, X129, e129, st129⟩ := getF X126 hx hZ hown (host := "") (Or.inl (hw _ (List.mem_of_getElem? (i := 32) rfl))) Via.refl e126 f108 (g := (mkF m 21 #[.val (.int p1), .val (.ref v101), .val (.int (12 : Int32)), .val (.int (3 : Int32)), .val (.ref a_READ)] [(.ref a_READ)])) rfl rfl (hb hby d1_21)
        refine EndsQ.go st129 ?_
        show EndsQ _ _ _ _ _ _ _ (T129.setTop (mkF m 24 #[.val (.int p1), .val (.ref v101), .val (.int (12 : Int32)), .val (.int (3 : Int32)), .val (.ref a_READ)] [(.int (4 : Int32))]))
        refine EndsQ.go (b := T129.setTop (mkF m 25 #[.val (.int p1), .val (.ref v101), .val (.int (12 : Int32)), .val (.int (3 : Int32)), .val (.ref a_READ)] [(.int p1), (.int (4 : Int32))])) (fun t k => ?_) ?_
        · show Steps p.tables e below (T129.setTop (mkF m 24 #[.val (.int p1), .val (.ref v101), .val (.int (12 : Int32)), .val (.int (3 : Int32)), .val (.ref a_READ)] [(.int (4 : Int32))])) _
          refine XS.iloadN X129.here hx rfl (hb hby d1_24) rfl ?_
          show Steps p.tables e below (T129.setTop (mkF m 25 #[.val (.int p1), .val (.ref v101), .val (.int (12 : Int32)), .val (.int (3 : Int32)), .val (.ref a_READ)] [(.int p1), (.int (4 : Int32))])) _
          exact k
        by_cases hc25_130 : (4 : Int32) = p1
        · refine EndsQ.go (b := T129.setTop (mkF m 28 #[.val (.int p1), .val (.ref v101), .val (.int (12 : Int32)), .val (.int (3 : Int32)), .val (.ref a_READ)] [])) (fun t k => ?_) ?_
          · show Steps p.tables e below (T129.setTop (mkF m 25 #[.val (.int p1), .val (.ref v101), .val (.int (12 : Int32)), .val (.int (3 : Int32)), .val (.ref a_READ)] [(.int p1), (.int (4 : Int32))])) _
            refine XS.icmpNo X129.here hx rfl (hb hby d1_25) rfl (teq hc25_130).2 ?_
            show Steps p.tables e below (T129.setTop (mkF m 28 #[.val (.int p1), .val (.ref v101), .val (.int (12 : Int32)), .val (.int (3 : Int32)), .val (.ref a_READ)] [])) _
            exact k
          refine EndsQ.go (b := T129.setTop (mkF m 30 #[.val (.int p1), .val (.ref v101), .val (.int (12 : Int32)), .val (.int (3 : Int32)), .val (.ref a_READ)] [(.ref a_READ)])) (fun t k => ?_) ?_
          · show Steps p.tables e below (T129.setTop (mkF m 28 #[.val (.int p1), .val (.ref v101), .val (.int (12 : Int32)), .val (.int (3 : Int32)), .val (.ref a_READ)] [])) _
            refine XS.aload X129.here hx rfl (hb hby d1_28) rfl rfl ?_
            show Steps p.tables e below (T129.setTop (mkF m 30 #[.val (.int p1), .val (.ref v101), .val (.int (12 : Int32)), .val (.int (3 : Int32)), .val (.ref a_READ)] [(.ref a_READ)])) _
            exact k
          refine EndsQ.retA X129 hx Bd.notSynchronized (w := (.ref a_READ)) Bd.returns rfl rfl rfl (hb hby d1_30) (by decide) (by decide) ?_
          show Q1 Z p1 a_VALUES kA a_MEMBERS a_PULL a_STORE a_READ a_COUNT a_JOIN a_PING a_CATCH_UP a_HAND_OFF a_LOAD a_QUERY a_STATUS h0 n0 (some (.ref a_READ)) T129.heap _
          rw [e129]
          exact ⟨by unfold own_of; rw [if_neg hc25_121, if_neg hc25_124, if_neg hc25_127, if_pos hc25_130], N101, E101⟩
        · refine EndsQ.go (b := T129.setTop (mkF m 31 #[.val (.int p1), .val (.ref v101), .val (.int (12 : Int32)), .val (.int (3 : Int32)), .val (.ref a_READ)] [])) (fun t k => ?_) ?_
          · show Steps p.tables e below (T129.setTop (mkF m 25 #[.val (.int p1), .val (.ref v101), .val (.int (12 : Int32)), .val (.int (3 : Int32)), .val (.ref a_READ)] [(.int p1), (.int (4 : Int32))])) _
            refine XS.icmpYes X129.here hx rfl (pc0 := 25) (pc' := 31) rfl (hb hby d1_25) rfl (feq hc25_130).2 (by decide) (by decide) ?_
            show Steps p.tables e below (T129.setTop (mkF m 31 #[.val (.int p1), .val (.ref v101), .val (.int (12 : Int32)), .val (.int (3 : Int32)), .val (.ref a_READ)] [])) _
            exact k
          refine EndsQ.go (b := T129.setTop (mkF m 16 #[.val (.int p1), .val (.ref v101), .val (.int (12 : Int32)), .val (.int (4 : Int32)), .val (.ref a_READ)] [(.int (4 : Int32)), (.ref v101)])) (fun t k => ?_) ?_
          · show Steps p.tables e below (T129.setTop (mkF m 31 #[.val (.int p1), .val (.ref v101), .val (.int (12 : Int32)), .val (.int (3 : Int32)), .val (.ref a_READ)] [])) _
            refine XS.iinc X129.here hx rfl (hb hby d1_31) rfl (l' := #[.val (.int p1), .val (.ref v101), .val (.int (12 : Int32)), .val (.int ((3 : Int32) + Int32.ofInt 1)), .val (.ref a_READ)]) rfl ?_
            show Steps p.tables e below (T129.setTop (mkF m 34 #[.val (.int p1), .val (.ref v101), .val (.int (12 : Int32)), .val (.int ((3 : Int32) + Int32.ofInt 1)), .val (.ref a_READ)] [])) _
            rw [(by decide : ((3 : Int32) + Int32.ofInt 1) = (4 : Int32))]
            show Steps p.tables e below (T129.setTop (mkF m 34 #[.val (.int p1), .val (.ref v101), .val (.int (12 : Int32)), .val (.int (4 : Int32)), .val (.ref a_READ)] [])) _
            refine XS.goto X129.here hx rfl (pc0 := 34) (pc' := 9) rfl (hb hby d1_34) (by decide) (by decide) ?_
            show Steps p.tables e below (T129.setTop (mkF m 9 #[.val (.int p1), .val (.ref v101), .val (.int (12 : Int32)), .val (.int (4 : Int32)), .val (.ref a_READ)] [])) _
            refine XS.iloadN X129.here hx rfl (hb hby d1_9) rfl ?_
            show Steps p.tables e below (T129.setTop (mkF m 10 #[.val (.int p1), .val (.ref v101), .val (.int (12 : Int32)), .val (.int (4 : Int32)), .val (.ref a_READ)] [(.int (4 : Int32))])) _
            refine XS.iloadN X129.here hx rfl (hb hby d1_10) rfl ?_
            show Steps p.tables e below (T129.setTop (mkF m 11 #[.val (.int p1), .val (.ref v101), .val (.int (12 : Int32)), .val (.int (4 : Int32)), .val (.ref a_READ)] [(.int (12 : Int32)), (.int (4 : Int32))])) _
            refine XS.icmpNo X129.here hx rfl (hb hby d1_11) rfl (tlt (by decide)).2.1 ?_
            show Steps p.tables e below (T129.setTop (mkF m 14 #[.val (.int p1), .val (.ref v101), .val (.int (12 : Int32)), .val (.int (4 : Int32)), .val (.ref a_READ)] [])) _
            refine XS.aloadN X129.here hx rfl (hb hby d1_14) rfl rfl ?_
            show Steps p.tables e below (T129.setTop (mkF m 15 #[.val (.int p1), .val (.ref v101), .val (.int (12 : Int32)), .val (.int (4 : Int32)), .val (.ref a_READ)] [(.ref v101)])) _
            refine XS.iloadN X129.here hx rfl (hb hby d1_15) rfl ?_
            show Steps p.tables e below (T129.setTop (mkF m 16 #[.val (.int p1), .val (.ref v101), .val (.int (12 : Int32)), .val (.int (4 : Int32)), .val (.ref a_READ)] [(.int (4 : Int32)), (.ref v101)])) _
            exact k
          obtain ⟨cl131, Ar131, q131, S131, M131, H131, G131⟩ := id VA101
          have hin131 : ¬ ((4 : Int32) < 0 ∨ cl131.slots.size ≤ ((4 : Int32)).toNatClampNeg) := inb_of S131 ⟨by decide, by decide⟩
          have hat131 : cl131.slots[((4 : Int32)).toNatClampNeg]? = some (.ref a_COUNT) := Has.at H131 hin131 rfl
          refine EndsQ.go (fun t k => X129.aaload hx (j := (4 : Int32)) (v := (.ref a_COUNT)) (by rw [e129]; exact Ar131.1) (State.isArrayOf_alike hZ.alike Ar131.2.1) rfl Ar131.2.2 hin131 hat131 (g := (mkF m 16 #[.val (.int p1), .val (.ref v101), .val (.int (12 : Int32)), .val (.int (4 : Int32)), .val (.ref a_READ)] [(.int (4 : Int32)), (.ref v101)])) rfl rfl (hb hby d1_16) _ k) ?_
          show EndsQ _ _ _ _ _ _ _ (T129.setTop (mkF m 17 #[.val (.int p1), .val (.ref v101), .val (.int (12 : Int32)), .val (.int (4 : Int32)), .val (.ref a_READ)] [(.ref a_COUNT)]))
          refine EndsQ.go (b := T129.setTop (mkF m 21 #[.val (.int p1), .val (.ref v101), .val (.int (12 : Int32)), .val (.int (4 : Int32)), .val (.ref a_COUNT)] [(.ref a_COUNT)])) (fun t k => ?_) ?_
          · show Steps p.tables e below (T129.setTop (mkF m 17 #[.val (.int p1), .val (.ref v101), .val (.int (12 : Int32)), .val (.int (4 : Int32)), .val (.ref a_READ)] [(.ref a_COUNT)])) _
            refine XS.astore X129.here hx rfl (hb hby d1_17) rfl rfl (l' := #[.val (.int p1), .val (.ref v101), .val (.int (12 : Int32)), .val (.int (4 : Int32)), .val (.ref a_COUNT)]) rfl ?_
            show Steps p.tables e below (T129.setTop (mkF m 19 #[.val (.int p1), .val (.ref v101), .val (.int (12 : Int32)), .val (.int (4 : Int32)), .val (.ref a_COUNT)] [])) _
            refine XS.aload X129.here hx rfl (hb hby d1_19) rfl rfl ?_
            show Steps p.tables e below (T129.setTop (mkF m 21 #[.val (.int p1), .val (.ref v101), .val (.int (12 : Int32)), .val (.int (4 : Int32)), .val (.ref a_COUNT)] [(.ref a_COUNT)])) _
            exact k
          obtain ⟨T132, X132, e132, st132⟩ := getF X129 hx hZ hown (host := "") (Or.inl (hw _ (List.mem_of_getElem? (i := 32) rfl))) Via.refl e129 f109 (g := (mkF m 21 #[.val (.int p1), .val (.ref v101), .val (.int (12 : Int32)), .val (.int (4 : Int32)), .val (.ref a_COUNT)] [(.ref a_COUNT)])) rfl rfl (hb hby d1_21)
          refine EndsQ.go st132 ?_
          show EndsQ _ _ _ _ _ _ _ (T132.setTop (mkF m 24 #[.val (.int p1), .val (.ref v101), .val (.int (12 : Int32)), .val (.int (4 : Int32)), .val (.ref a_COUNT)] [(.int (5 : Int32))]))
          refine EndsQ.go (b := T132.setTop (mkF m 25 #[.val (.int p1), .val (.ref v101), .val (.int (12 : Int32)), .val (.int (4 : Int32)), .val (.ref a_COUNT)] [(.int p1), (.int (5 : Int32))])) (fun t k => ?_) ?_
          · show Steps p.tables e below (T132.setTop (mkF m 24 #[.val (.int p1), .val (.ref v101), .val (.int (12 : Int32)), .val (.int (4 : Int32)), .val (.ref a_COUNT)] [(.int (5 : Int32))])) _
            refine XS.iloadN X132.here hx rfl (hb hby d1_24) rfl ?_
            show Steps p.tables e below (T132.setTop (mkF m 25 #[.val (.int p1), .val (.ref v101), .val (.int (12 : Int32)), .val (.int (4 : Int32)), .val (.ref a_COUNT)] [(.int p1), (.int (5 : Int32))])) _
            exact k
          by_cases hc25_133 : (5 : Int32) = p1
          · refine EndsQ.go (b := T132.setTop (mkF m 28 #[.val (.int p1), .val (.ref v101), .val (.int (12 : Int32)), .val (.int (4 : Int32)), .val (.ref a_COUNT)] [])) (fun t k => ?_) ?_
            · show Steps p.tables e below (T132.setTop (mkF m 25 #[.val (.int p1), .val (.ref v101), .val (.int (12 : Int32)), .val (.int (4 : Int32)), .val (.ref a_COUNT)] [(.int p1), (.int (5 : Int32))])) _
              refine XS.icmpNo X132.here hx rfl (hb hby d1_25) rfl (teq hc25_133).2 ?_
              show Steps p.tables e below (T132.setTop (mkF m 28 #[.val (.int p1), .val (.ref v101), .val (.int (12 : Int32)), .val (.int (4 : Int32)), .val (.ref a_COUNT)] [])) _
              exact k
            refine EndsQ.go (b := T132.setTop (mkF m 30 #[.val (.int p1), .val (.ref v101), .val (.int (12 : Int32)), .val (.int (4 : Int32)), .val (.ref a_COUNT)] [(.ref a_COUNT)])) (fun t k => ?_) ?_
            · show Steps p.tables e below (T132.setTop (mkF m 28 #[.val (.int p1), .val (.ref v101), .val (.int (12 : Int32)), .val (.int (4 : Int32)), .val (.ref a_COUNT)] [])) _
              refine XS.aload X132.here hx rfl (hb hby d1_28) rfl rfl ?_
              show Steps p.tables e below (T132.setTop (mkF m 30 #[.val (.int p1), .val (.ref v101), .val (.int (12 : Int32)), .val (.int (4 : Int32)), .val (.ref a_COUNT)] [(.ref a_COUNT)])) _
              exact k
            refine EndsQ.retA X132 hx Bd.notSynchronized (w := (.ref a_COUNT)) Bd.returns rfl rfl rfl (hb hby d1_30) (by decide) (by decide) ?_
            show Q1 Z p1 a_VALUES kA a_MEMBERS a_PULL a_STORE a_READ a_COUNT a_JOIN a_PING a_CATCH_UP a_HAND_OFF a_LOAD a_QUERY a_STATUS h0 n0 (some (.ref a_COUNT)) T132.heap _
            rw [e132]
            exact ⟨by unfold own_of; rw [if_neg hc25_121, if_neg hc25_124, if_neg hc25_127, if_neg hc25_130, if_pos hc25_133], N101, E101⟩
          · refine EndsQ.go (b := T132.setTop (mkF m 31 #[.val (.int p1), .val (.ref v101), .val (.int (12 : Int32)), .val (.int (4 : Int32)), .val (.ref a_COUNT)] [])) (fun t k => ?_) ?_
            · show Steps p.tables e below (T132.setTop (mkF m 25 #[.val (.int p1), .val (.ref v101), .val (.int (12 : Int32)), .val (.int (4 : Int32)), .val (.ref a_COUNT)] [(.int p1), (.int (5 : Int32))])) _
              refine XS.icmpYes X132.here hx rfl (pc0 := 25) (pc' := 31) rfl (hb hby d1_25) rfl (feq hc25_133).2 (by decide) (by decide) ?_
              show Steps p.tables e below (T132.setTop (mkF m 31 #[.val (.int p1), .val (.ref v101), .val (.int (12 : Int32)), .val (.int (4 : Int32)), .val (.ref a_COUNT)] [])) _
              exact k
            refine EndsQ.go (b := T132.setTop (mkF m 16 #[.val (.int p1), .val (.ref v101), .val (.int (12 : Int32)), .val (.int (5 : Int32)), .val (.ref a_COUNT)] [(.int (5 : Int32)), (.ref v101)])) (fun t k => ?_) ?_
            · show Steps p.tables e below (T132.setTop (mkF m 31 #[.val (.int p1), .val (.ref v101), .val (.int (12 : Int32)), .val (.int (4 : Int32)), .val (.ref a_COUNT)] [])) _
              refine XS.iinc X132.here hx rfl (hb hby d1_31) rfl (l' := #[.val (.int p1), .val (.ref v101), .val (.int (12 : Int32)), .val (.int ((4 : Int32) + Int32.ofInt 1)), .val (.ref a_COUNT)]) rfl ?_
              show Steps p.tables e below (T132.setTop (mkF m 34 #[.val (.int p1), .val (.ref v101), .val (.int (12 : Int32)), .val (.int ((4 : Int32) + Int32.ofInt 1)), .val (.ref a_COUNT)] [])) _
              rw [(by decide : ((4 : Int32) + Int32.ofInt 1) = (5 : Int32))]
              show Steps p.tables e below (T132.setTop (mkF m 34 #[.val (.int p1), .val (.ref v101), .val (.int (12 : Int32)), .val (.int (5 : Int32)), .val (.ref a_COUNT)] [])) _
              refine XS.goto X132.here hx rfl (pc0 := 34) (pc' := 9) rfl (hb hby d1_34) (by decide) (by decide) ?_
              show Steps p.tables e below (T132.setTop (mkF m 9 #[.val (.int p1), .val (.ref v101), .val (.int (12 : Int32)), .val (.int (5 : Int32)), .val (.ref a_COUNT)] [])) _
              refine XS.iloadN X132.here hx rfl (hb hby d1_9) rfl ?_
              show Steps p.tables e below (T132.setTop (mkF m 10 #[.val (.int p1), .val (.ref v101), .val (.int (12 : Int32)), .val (.int (5 : Int32)), .val (.ref a_COUNT)] [(.int (5 : Int32))])) _
              refine XS.iloadN X132.here hx rfl (hb hby d1_10) rfl ?_
              show Steps p.tables e below (T132.setTop (mkF m 11 #[.val (.int p1), .val (.ref v101), .val (.int (12 : Int32)), .val (.int (5 : Int32)), .val (.ref a_COUNT)] [(.int (12 : Int32)), (.int (5 : Int32))])) _
              refine XS.icmpNo X132.here hx rfl (hb hby d1_11) rfl (tlt (by decide)).2.1 ?_
              show Steps p.tables e below (T132.setTop (mkF m 14 #[.val (.int p1), .val (.ref v101), .val (.int (12 : Int32)), .val (.int (5 : Int32)), .val (.ref a_COUNT)] [])) _
              refine XS.aloadN X132.here hx rfl (hb hby d1_14) rfl rfl ?_
              show Steps p.tables e below (T132.setTop (mkF m 15 #[.val (.int p1), .val (.ref v101), .val (.int (12 : Int32)), .val (.int (5 : Int32)), .val (.ref a_COUNT)] [(.ref v101)])) _
              refine XS.iloadN X132.here hx rfl (hb hby d1_15) rfl ?_
              show Steps p.tables e below (T132.setTop (mkF m 16 #[.val (.int p1), .val (.ref v101), .val (.int (12 : Int32)), .val (.int (5 : Int32)), .val (.ref a_COUNT)] [(.int (5 : Int32)), (.ref v101)])) _
              exact k
            obtain ⟨cl134, Ar134, q134, S134, M134, H134, G134⟩ := id VA101
            have hin134 : ¬ ((5 : Int32) < 0 ∨ cl134.slots.size ≤ ((5 : Int32)).toNatClampNeg) := inb_of S134 ⟨by decide, by decide⟩
            have hat134 : cl134.slots[((5 : Int32)).toNatClampNeg]? = some (.ref a_JOIN) := Has.at H134 hin134 rfl
            refine EndsQ.go (fun t k => X132.aaload hx (j := (5 : Int32)) (v := (.ref a_JOIN)) (by rw [e132]; exact Ar134.1) (State.isArrayOf_alike hZ.alike Ar134.2.1) rfl Ar134.2.2 hin134 hat134 (g := (mkF m 16 #[.val (.int p1), .val (.ref v101), .val (.int (12 : Int32)), .val (.int (5 : Int32)), .val (.ref a_COUNT)] [(.int (5 : Int32)), (.ref v101)])) rfl rfl (hb hby d1_16) _ k) ?_
            show EndsQ _ _ _ _ _ _ _ (T132.setTop (mkF m 17 #[.val (.int p1), .val (.ref v101), .val (.int (12 : Int32)), .val (.int (5 : Int32)), .val (.ref a_COUNT)] [(.ref a_JOIN)]))
            refine EndsQ.go (b := T132.setTop (mkF m 21 #[.val (.int p1), .val (.ref v101), .val (.int (12 : Int32)), .val (.int (5 : Int32)), .val (.ref a_JOIN)] [(.ref a_JOIN)])) (fun t k => ?_) ?_
            · show Steps p.tables e below (T132.setTop (mkF m 17 #[.val (.int p1), .val (.ref v101), .val (.int (12 : Int32)), .val (.int (5 : Int32)), .val (.ref a_COUNT)] [(.ref a_JOIN)])) _
              refine XS.astore X132.here hx rfl (hb hby d1_17) rfl rfl (l' := #[.val (.int p1), .val (.ref v101), .val (.int (12 : Int32)), .val (.int (5 : Int32)), .val (.ref a_JOIN)]) rfl ?_
              show Steps p.tables e below (T132.setTop (mkF m 19 #[.val (.int p1), .val (.ref v101), .val (.int (12 : Int32)), .val (.int (5 : Int32)), .val (.ref a_JOIN)] [])) _
              refine XS.aload X132.here hx rfl (hb hby d1_19) rfl rfl ?_
              show Steps p.tables e below (T132.setTop (mkF m 21 #[.val (.int p1), .val (.ref v101), .val (.int (12 : Int32)), .val (.int (5 : Int32)), .val (.ref a_JOIN)] [(.ref a_JOIN)])) _
              exact k
            obtain ⟨T135, X135, e135, st135⟩ := getF X132 hx hZ hown (host := "") (Or.inl (hw _ (List.mem_of_getElem? (i := 32) rfl))) Via.refl e132 f110 (g := (mkF m 21 #[.val (.int p1), .val (.ref v101), .val (.int (12 : Int32)), .val (.int (5 : Int32)), .val (.ref a_JOIN)] [(.ref a_JOIN)])) rfl rfl (hb hby d1_21)
            refine EndsQ.go st135 ?_
            show EndsQ _ _ _ _ _ _ _ (T135.setTop (mkF m 24 #[.val (.int p1), .val (.ref v101), .val (.int (12 : Int32)), .val (.int (5 : Int32)), .val (.ref a_JOIN)] [(.int (6 : Int32))]))
            refine EndsQ.go (b := T135.setTop (mkF m 25 #[.val (.int p1), .val (.ref v101), .val (.int (12 : Int32)), .val (.int (5 : Int32)), .val (.ref a_JOIN)] [(.int p1), (.int (6 : Int32))])) (fun t k => ?_) ?_
            · show Steps p.tables e below (T135.setTop (mkF m 24 #[.val (.int p1), .val (.ref v101), .val (.int (12 : Int32)), .val (.int (5 : Int32)), .val (.ref a_JOIN)] [(.int (6 : Int32))])) _
              refine XS.iloadN X135.here hx rfl (hb hby d1_24) rfl ?_
              show Steps p.tables e below (T135.setTop (mkF m 25 #[.val (.int p1), .val (.ref v101), .val (.int (12 : Int32)), .val (.int (5 : Int32)), .val (.ref a_JOIN)] [(.int p1), (.int (6 : Int32))])) _
              exact k
            by_cases hc25_136 : (6 : Int32) = p1
            · refine EndsQ.go (b := T135.setTop (mkF m 28 #[.val (.int p1), .val (.ref v101), .val (.int (12 : Int32)), .val (.int (5 : Int32)), .val (.ref a_JOIN)] [])) (fun t k => ?_) ?_
              · show Steps p.tables e below (T135.setTop (mkF m 25 #[.val (.int p1), .val (.ref v101), .val (.int (12 : Int32)), .val (.int (5 : Int32)), .val (.ref a_JOIN)] [(.int p1), (.int (6 : Int32))])) _
                refine XS.icmpNo X135.here hx rfl (hb hby d1_25) rfl (teq hc25_136).2 ?_
                show Steps p.tables e below (T135.setTop (mkF m 28 #[.val (.int p1), .val (.ref v101), .val (.int (12 : Int32)), .val (.int (5 : Int32)), .val (.ref a_JOIN)] [])) _
                exact k
              refine EndsQ.go (b := T135.setTop (mkF m 30 #[.val (.int p1), .val (.ref v101), .val (.int (12 : Int32)), .val (.int (5 : Int32)), .val (.ref a_JOIN)] [(.ref a_JOIN)])) (fun t k => ?_) ?_
              · show Steps p.tables e below (T135.setTop (mkF m 28 #[.val (.int p1), .val (.ref v101), .val (.int (12 : Int32)), .val (.int (5 : Int32)), .val (.ref a_JOIN)] [])) _
                refine XS.aload X135.here hx rfl (hb hby d1_28) rfl rfl ?_
                show Steps p.tables e below (T135.setTop (mkF m 30 #[.val (.int p1), .val (.ref v101), .val (.int (12 : Int32)), .val (.int (5 : Int32)), .val (.ref a_JOIN)] [(.ref a_JOIN)])) _
                exact k
              refine EndsQ.retA X135 hx Bd.notSynchronized (w := (.ref a_JOIN)) Bd.returns rfl rfl rfl (hb hby d1_30) (by decide) (by decide) ?_
              show Q1 Z p1 a_VALUES kA a_MEMBERS a_PULL a_STORE a_READ a_COUNT a_JOIN a_PING a_CATCH_UP a_HAND_OFF a_LOAD a_QUERY a_STATUS h0 n0 (some (.ref a_JOIN)) T135.heap _
              rw [e135]
              exact ⟨by unfold own_of; rw [if_neg hc25_121, if_neg hc25_124, if_neg hc25_127, if_neg hc25_130, if_neg hc25_133, if_pos hc25_136], N101, E101⟩
            · refine EndsQ.go (b := T135.setTop (mkF m 31 #[.val (.int p1), .val (.ref v101), .val (.int (12 : Int32)), .val (.int (5 : Int32)), .val (.ref a_JOIN)] [])) (fun t k => ?_) ?_
              · show Steps p.tables e below (T135.setTop (mkF m 25 #[.val (.int p1), .val (.ref v101), .val (.int (12 : Int32)), .val (.int (5 : Int32)), .val (.ref a_JOIN)] [(.int p1), (.int (6 : Int32))])) _
                refine XS.icmpYes X135.here hx rfl (pc0 := 25) (pc' := 31) rfl (hb hby d1_25) rfl (feq hc25_136).2 (by decide) (by decide) ?_
                show Steps p.tables e below (T135.setTop (mkF m 31 #[.val (.int p1), .val (.ref v101), .val (.int (12 : Int32)), .val (.int (5 : Int32)), .val (.ref a_JOIN)] [])) _
                exact k
              refine EndsQ.go (b := T135.setTop (mkF m 16 #[.val (.int p1), .val (.ref v101), .val (.int (12 : Int32)), .val (.int (6 : Int32)), .val (.ref a_JOIN)] [(.int (6 : Int32)), (.ref v101)])) (fun t k => ?_) ?_
              · show Steps p.tables e below (T135.setTop (mkF m 31 #[.val (.int p1), .val (.ref v101), .val (.int (12 : Int32)), .val (.int (5 : Int32)), .val (.ref a_JOIN)] [])) _
                refine XS.iinc X135.here hx rfl (hb hby d1_31) rfl (l' := #[.val (.int p1), .val (.ref v101), .val (.int (12 : Int32)), .val (.int ((5 : Int32) + Int32.ofInt 1)), .val (.ref a_JOIN)]) rfl ?_
                show Steps p.tables e below (T135.setTop (mkF m 34 #[.val (.int p1), .val (.ref v101), .val (.int (12 : Int32)), .val (.int ((5 : Int32) + Int32.ofInt 1)), .val (.ref a_JOIN)] [])) _
                rw [(by decide : ((5 : Int32) + Int32.ofInt 1) = (6 : Int32))]
                show Steps p.tables e below (T135.setTop (mkF m 34 #[.val (.int p1), .val (.ref v101), .val (.int (12 : Int32)), .val (.int (6 : Int32)), .val (.ref a_JOIN)] [])) _
                refine XS.goto X135.here hx rfl (pc0 := 34) (pc' := 9) rfl (hb hby d1_34) (by decide) (by decide) ?_
                show Steps p.tables e below (T135.setTop (mkF m 9 #[.val (.int p1), .val (.ref v101), .val (.int (12 : Int32)), .val (.int (6 : Int32)), .val (.ref a_JOIN)] [])) _
                refine XS.iloadN X135.here hx rfl (hb hby d1_9) rfl ?_
                show Steps p.tables e below (T135.setTop (mkF m 10 #[.val (.int p1), .val (.ref v101), .val (.int (12 : Int32)), .val (.int (6 : Int32)), .val (.ref a_JOIN)] [(.int (6 : Int32))])) _
                refine XS.iloadN X135.here hx rfl (hb hby d1_10) rfl ?_
                show Steps p.tables e below (T135.setTop (mkF m 11 #[.val (.int p1), .val (.ref v101), .val (.int (12 : Int32)), .val (.int (6 : Int32)), .val (.ref a_JOIN)] [(.int (12 : Int32)), (.int (6 : Int32))])) _
                refine XS.icmpNo X135.here hx rfl (hb hby d1_11) rfl (tlt (by decide)).2.1 ?_
                show Steps p.tables e below (T135.setTop (mkF m 14 #[.val (.int p1), .val (.ref v101), .val (.int (12 : Int32)), .val (.int (6 : Int32)), .val (.ref a_JOIN)] [])) _
                refine XS.aloadN X135.here hx rfl (hb hby d1_14) rfl rfl ?_
                show Steps p.tables e below (T135.setTop (mkF m 15 #[.val (.int p1), .val (.ref v101), .val (.int (12 : Int32)), .val (.int (6 : Int32)), .val (.ref a_JOIN)] [(.ref v101)])) _
                refine XS.iloadN X135.here hx rfl (hb hby d1_15) rfl ?_
                show Steps p.tables e below (T135.setTop (mkF m 16 #[.val (.int p1), .val (.ref v101), .val (.int (12 : Int32)), .val (.int (6 : Int32)), .val (.ref a_JOIN)] [(.int (6 : Int32)), (.ref v101)])) _
                exact k
              obtain ⟨cl137, Ar137, q137, S137, M137, H137, G137⟩ := id VA101
              have hin137 : ¬ ((6 : Int32) < 0 ∨ cl137.slots.size ≤ ((6 : Int32)).toNatClampNeg) := inb_of S137 ⟨by decide, by decide⟩
              have hat137 : cl137.slots[((6 : Int32)).toNatClampNeg]? = some (.ref a_PING) := Has.at H137 hin137 rfl
              refine EndsQ.go (fun t k => X135.aaload hx (j := (6 : Int32)) (v := (.ref a_PING)) (by rw [e135]; exact Ar137.1) (State.isArrayOf_alike hZ.alike Ar137.2.1) rfl Ar137.2.2 hin137 hat137 (g := (mkF m 16 #[.val (.int p1), .val (.ref v101), .val (.int (12 : Int32)), .val (.int (6 : Int32)), .val (.ref a_JOIN)] [(.int (6 : Int32)), (.ref v101)])) rfl rfl (hb hby d1_16) _ k) ?_
              show EndsQ _ _ _ _ _ _ _ (T135.setTop (mkF m 17 #[.val (.int p1), .val (.ref v101), .val (.int (12 : Int32)), .val (.int (6 : Int32)), .val (.ref a_JOIN)] [(.ref a_PING)]))
              refine EndsQ.go (b := T135.setTop (mkF m 21 #[.val (.int p1), .val (.ref v101), .val (.int (12 : Int32)), .val (.int (6 : Int32)), .val (.ref a_PING)] [(.ref a_PING)])) (fun t k => ?_) ?_
              · show Steps p.tables e below (T135.setTop (mkF m 17 #[.val (.int p1), .val (.ref v101), .val (.int (12 : Int32)), .val (.int (6 : Int32)), .val (.ref a_JOIN)] [(.ref a_PING)])) _
                refine XS.astore X135.here hx rfl (hb hby d1_17) rfl rfl (l' := #[.val (.int p1), .val (.ref v101), .val (.int (12 : Int32)), .val (.int (6 : Int32)), .val (.ref a_PING)]) rfl ?_
                show Steps p.tables e below (T135.setTop (mkF m 19 #[.val (.int p1), .val (.ref v101), .val (.int (12 : Int32)), .val (.int (6 : Int32)), .val (.ref a_PING)] [])) _
                refine XS.aload X135.here hx rfl (hb hby d1_19) rfl rfl ?_
                show Steps p.tables e below (T135.setTop (mkF m 21 #[.val (.int p1), .val (.ref v101), .val (.int (12 : Int32)), .val (.int (6 : Int32)), .val (.ref a_PING)] [(.ref a_PING)])) _
                exact k
              obtain ⟨T138, X138, e138, st138⟩ := getF X135 hx hZ hown (host := "") (Or.inl (hw _ (List.mem_of_getElem? (i := 32) rfl))) Via.refl e135 f111 (g := (mkF m 21 #[.val (.int p1), .val (.ref v101), .val (.int (12 : Int32)), .val (.int (6 : Int32)), .val (.ref a_PING)] [(.ref a_PING)])) rfl rfl (hb hby d1_21)
              refine EndsQ.go st138 ?_
              show EndsQ _ _ _ _ _ _ _ (T138.setTop (mkF m 24 #[.val (.int p1), .val (.ref v101), .val (.int (12 : Int32)), .val (.int (6 : Int32)), .val (.ref a_PING)] [(.int (7 : Int32))]))
              refine EndsQ.go (b := T138.setTop (mkF m 25 #[.val (.int p1), .val (.ref v101), .val (.int (12 : Int32)), .val (.int (6 : Int32)), .val (.ref a_PING)] [(.int p1), (.int (7 : Int32))])) (fun t k => ?_) ?_
              · show Steps p.tables e below (T138.setTop (mkF m 24 #[.val (.int p1), .val (.ref v101), .val (.int (12 : Int32)), .val (.int (6 : Int32)), .val (.ref a_PING)] [(.int (7 : Int32))])) _
                refine XS.iloadN X138.here hx rfl (hb hby d1_24) rfl ?_
                show Steps p.tables e below (T138.setTop (mkF m 25 #[.val (.int p1), .val (.ref v101), .val (.int (12 : Int32)), .val (.int (6 : Int32)), .val (.ref a_PING)] [(.int p1), (.int (7 : Int32))])) _
                exact k
              by_cases hc25_139 : (7 : Int32) = p1
              · refine EndsQ.go (b := T138.setTop (mkF m 28 #[.val (.int p1), .val (.ref v101), .val (.int (12 : Int32)), .val (.int (6 : Int32)), .val (.ref a_PING)] [])) (fun t k => ?_) ?_
                · show Steps p.tables e below (T138.setTop (mkF m 25 #[.val (.int p1), .val (.ref v101), .val (.int (12 : Int32)), .val (.int (6 : Int32)), .val (.ref a_PING)] [(.int p1), (.int (7 : Int32))])) _
                  refine XS.icmpNo X138.here hx rfl (hb hby d1_25) rfl (teq hc25_139).2 ?_
                  show Steps p.tables e below (T138.setTop (mkF m 28 #[.val (.int p1), .val (.ref v101), .val (.int (12 : Int32)), .val (.int (6 : Int32)), .val (.ref a_PING)] [])) _
                  exact k
                refine EndsQ.go (b := T138.setTop (mkF m 30 #[.val (.int p1), .val (.ref v101), .val (.int (12 : Int32)), .val (.int (6 : Int32)), .val (.ref a_PING)] [(.ref a_PING)])) (fun t k => ?_) ?_
                · show Steps p.tables e below (T138.setTop (mkF m 28 #[.val (.int p1), .val (.ref v101), .val (.int (12 : Int32)), .val (.int (6 : Int32)), .val (.ref a_PING)] [])) _
                  refine XS.aload X138.here hx rfl (hb hby d1_28) rfl rfl ?_
                  show Steps p.tables e below (T138.setTop (mkF m 30 #[.val (.int p1), .val (.ref v101), .val (.int (12 : Int32)), .val (.int (6 : Int32)), .val (.ref a_PING)] [(.ref a_PING)])) _
                  exact k
                refine EndsQ.retA X138 hx Bd.notSynchronized (w := (.ref a_PING)) Bd.returns rfl rfl rfl (hb hby d1_30) (by decide) (by decide) ?_
                show Q1 Z p1 a_VALUES kA a_MEMBERS a_PULL a_STORE a_READ a_COUNT a_JOIN a_PING a_CATCH_UP a_HAND_OFF a_LOAD a_QUERY a_STATUS h0 n0 (some (.ref a_PING)) T138.heap _
                rw [e138]
                exact ⟨by unfold own_of; rw [if_neg hc25_121, if_neg hc25_124, if_neg hc25_127, if_neg hc25_130, if_neg hc25_133, if_neg hc25_136, if_pos hc25_139], N101, E101⟩
              · refine EndsQ.go (b := T138.setTop (mkF m 31 #[.val (.int p1), .val (.ref v101), .val (.int (12 : Int32)), .val (.int (6 : Int32)), .val (.ref a_PING)] [])) (fun t k => ?_) ?_
                · show Steps p.tables e below (T138.setTop (mkF m 25 #[.val (.int p1), .val (.ref v101), .val (.int (12 : Int32)), .val (.int (6 : Int32)), .val (.ref a_PING)] [(.int p1), (.int (7 : Int32))])) _
                  refine XS.icmpYes X138.here hx rfl (pc0 := 25) (pc' := 31) rfl (hb hby d1_25) rfl (feq hc25_139).2 (by decide) (by decide) ?_
                  show Steps p.tables e below (T138.setTop (mkF m 31 #[.val (.int p1), .val (.ref v101), .val (.int (12 : Int32)), .val (.int (6 : Int32)), .val (.ref a_PING)] [])) _
                  exact k
                refine EndsQ.go (b := T138.setTop (mkF m 16 #[.val (.int p1), .val (.ref v101), .val (.int (12 : Int32)), .val (.int (7 : Int32)), .val (.ref a_PING)] [(.int (7 : Int32)), (.ref v101)])) (fun t k => ?_) ?_
                · show Steps p.tables e below (T138.setTop (mkF m 31 #[.val (.int p1), .val (.ref v101), .val (.int (12 : Int32)), .val (.int (6 : Int32)), .val (.ref a_PING)] [])) _
                  refine XS.iinc X138.here hx rfl (hb hby d1_31) rfl (l' := #[.val (.int p1), .val (.ref v101), .val (.int (12 : Int32)), .val (.int ((6 : Int32) + Int32.ofInt 1)), .val (.ref a_PING)]) rfl ?_
                  show Steps p.tables e below (T138.setTop (mkF m 34 #[.val (.int p1), .val (.ref v101), .val (.int (12 : Int32)), .val (.int ((6 : Int32) + Int32.ofInt 1)), .val (.ref a_PING)] [])) _
                  rw [(by decide : ((6 : Int32) + Int32.ofInt 1) = (7 : Int32))]
                  show Steps p.tables e below (T138.setTop (mkF m 34 #[.val (.int p1), .val (.ref v101), .val (.int (12 : Int32)), .val (.int (7 : Int32)), .val (.ref a_PING)] [])) _
                  refine XS.goto X138.here hx rfl (pc0 := 34) (pc' := 9) rfl (hb hby d1_34) (by decide) (by decide) ?_
                  show Steps p.tables e below (T138.setTop (mkF m 9 #[.val (.int p1), .val (.ref v101), .val (.int (12 : Int32)), .val (.int (7 : Int32)), .val (.ref a_PING)] [])) _
                  refine XS.iloadN X138.here hx rfl (hb hby d1_9) rfl ?_
                  show Steps p.tables e below (T138.setTop (mkF m 10 #[.val (.int p1), .val (.ref v101), .val (.int (12 : Int32)), .val (.int (7 : Int32)), .val (.ref a_PING)] [(.int (7 : Int32))])) _
                  refine XS.iloadN X138.here hx rfl (hb hby d1_10) rfl ?_
                  show Steps p.tables e below (T138.setTop (mkF m 11 #[.val (.int p1), .val (.ref v101), .val (.int (12 : Int32)), .val (.int (7 : Int32)), .val (.ref a_PING)] [(.int (12 : Int32)), (.int (7 : Int32))])) _
                  refine XS.icmpNo X138.here hx rfl (hb hby d1_11) rfl (tlt (by decide)).2.1 ?_
                  show Steps p.tables e below (T138.setTop (mkF m 14 #[.val (.int p1), .val (.ref v101), .val (.int (12 : Int32)), .val (.int (7 : Int32)), .val (.ref a_PING)] [])) _
                  refine XS.aloadN X138.here hx rfl (hb hby d1_14) rfl rfl ?_
                  show Steps p.tables e below (T138.setTop (mkF m 15 #[.val (.int p1), .val (.ref v101), .val (.int (12 : Int32)), .val (.int (7 : Int32)), .val (.ref a_PING)] [(.ref v101)])) _
                  refine XS.iloadN X138.here hx rfl (hb hby d1_15) rfl ?_
                  show Steps p.tables e below (T138.setTop (mkF m 16 #[.val (.int p1), .val (.ref v101), .val (.int (12 : Int32)), .val (.int (7 : Int32)), .val (.ref a_PING)] [(.int (7 : Int32)), (.ref v101)])) _
                  exact k
                obtain ⟨cl140, Ar140, q140, S140, M140, H140, G140⟩ := id VA101
                have hin140 : ¬ ((7 : Int32) < 0 ∨ cl140.slots.size ≤ ((7 : Int32)).toNatClampNeg) := inb_of S140 ⟨by decide, by decide⟩
                have hat140 : cl140.slots[((7 : Int32)).toNatClampNeg]? = some (.ref a_CATCH_UP) := Has.at H140 hin140 rfl
                refine EndsQ.go (fun t k => X138.aaload hx (j := (7 : Int32)) (v := (.ref a_CATCH_UP)) (by rw [e138]; exact Ar140.1) (State.isArrayOf_alike hZ.alike Ar140.2.1) rfl Ar140.2.2 hin140 hat140 (g := (mkF m 16 #[.val (.int p1), .val (.ref v101), .val (.int (12 : Int32)), .val (.int (7 : Int32)), .val (.ref a_PING)] [(.int (7 : Int32)), (.ref v101)])) rfl rfl (hb hby d1_16) _ k) ?_
                show EndsQ _ _ _ _ _ _ _ (T138.setTop (mkF m 17 #[.val (.int p1), .val (.ref v101), .val (.int (12 : Int32)), .val (.int (7 : Int32)), .val (.ref a_PING)] [(.ref a_CATCH_UP)]))
                refine EndsQ.go (b := T138.setTop (mkF m 21 #[.val (.int p1), .val (.ref v101), .val (.int (12 : Int32)), .val (.int (7 : Int32)), .val (.ref a_CATCH_UP)] [(.ref a_CATCH_UP)])) (fun t k => ?_) ?_
                · show Steps p.tables e below (T138.setTop (mkF m 17 #[.val (.int p1), .val (.ref v101), .val (.int (12 : Int32)), .val (.int (7 : Int32)), .val (.ref a_PING)] [(.ref a_CATCH_UP)])) _
                  refine XS.astore X138.here hx rfl (hb hby d1_17) rfl rfl (l' := #[.val (.int p1), .val (.ref v101), .val (.int (12 : Int32)), .val (.int (7 : Int32)), .val (.ref a_CATCH_UP)]) rfl ?_
                  show Steps p.tables e below (T138.setTop (mkF m 19 #[.val (.int p1), .val (.ref v101), .val (.int (12 : Int32)), .val (.int (7 : Int32)), .val (.ref a_CATCH_UP)] [])) _
                  refine XS.aload X138.here hx rfl (hb hby d1_19) rfl rfl ?_
                  show Steps p.tables e below (T138.setTop (mkF m 21 #[.val (.int p1), .val (.ref v101), .val (.int (12 : Int32)), .val (.int (7 : Int32)), .val (.ref a_CATCH_UP)] [(.ref a_CATCH_UP)])) _
                  exact k
                obtain ⟨T141, X141, e141, st141⟩ := getF X138 hx hZ hown (host := "") (Or.inl (hw _ (List.mem_of_getElem? (i := 32) rfl))) Via.refl e138 f112 (g := (mkF m 21 #[.val (.int p1), .val (.ref v101), .val (.int (12 : Int32)), .val (.int (7 : Int32)), .val (.ref a_CATCH_UP)] [(.ref a_CATCH_UP)])) rfl rfl (hb hby d1_21)
                refine EndsQ.go st141 ?_
                show EndsQ _ _ _ _ _ _ _ (T141.setTop (mkF m 24 #[.val (.int p1), .val (.ref v101), .val (.int (12 : Int32)), .val (.int (7 : Int32)), .val (.ref a_CATCH_UP)] [(.int (8 : Int32))]))
                refine EndsQ.go (b := T141.setTop (mkF m 25 #[.val (.int p1), .val (.ref v101), .val (.int (12 : Int32)), .val (.int (7 : Int32)), .val (.ref a_CATCH_UP)] [(.int p1), (.int (8 : Int32))])) (fun t k => ?_) ?_
                · show Steps p.tables e below (T141.setTop (mkF m 24 #[.val (.int p1), .val (.ref v101), .val (.int (12 : Int32)), .val (.int (7 : Int32)), .val (.ref a_CATCH_UP)] [(.int (8 : Int32))])) _
                  refine XS.iloadN X141.here hx rfl (hb hby d1_24) rfl ?_
                  show Steps p.tables e below (T141.setTop (mkF m 25 #[.val (.int p1), .val (.ref v101), .val (.int (12 : Int32)), .val (.int (7 : Int32)), .val (.ref a_CATCH_UP)] [(.int p1), (.int (8 : Int32))])) _
                  exact k
                by_cases hc25_142 : (8 : Int32) = p1
                · refine EndsQ.go (b := T141.setTop (mkF m 28 #[.val (.int p1), .val (.ref v101), .val (.int (12 : Int32)), .val (.int (7 : Int32)), .val (.ref a_CATCH_UP)] [])) (fun t k => ?_) ?_
                  · show Steps p.tables e below (T141.setTop (mkF m 25 #[.val (.int p1), .val (.ref v101), .val (.int (12 : Int32)), .val (.int (7 : Int32)), .val (.ref a_CATCH_UP)] [(.int p1), (.int (8 : Int32))])) _
                    refine XS.icmpNo X141.here hx rfl (hb hby d1_25) rfl (teq hc25_142).2 ?_
                    show Steps p.tables e below (T141.setTop (mkF m 28 #[.val (.int p1), .val (.ref v101), .val (.int (12 : Int32)), .val (.int (7 : Int32)), .val (.ref a_CATCH_UP)] [])) _
                    exact k
                  refine EndsQ.go (b := T141.setTop (mkF m 30 #[.val (.int p1), .val (.ref v101), .val (.int (12 : Int32)), .val (.int (7 : Int32)), .val (.ref a_CATCH_UP)] [(.ref a_CATCH_UP)])) (fun t k => ?_) ?_
                  · show Steps p.tables e below (T141.setTop (mkF m 28 #[.val (.int p1), .val (.ref v101), .val (.int (12 : Int32)), .val (.int (7 : Int32)), .val (.ref a_CATCH_UP)] [])) _
                    refine XS.aload X141.here hx rfl (hb hby d1_28) rfl rfl ?_
                    show Steps p.tables e below (T141.setTop (mkF m 30 #[.val (.int p1), .val (.ref v101), .val (.int (12 : Int32)), .val (.int (7 : Int32)), .val (.ref a_CATCH_UP)] [(.ref a_CATCH_UP)])) _
                    exact k
                  refine EndsQ.retA X141 hx Bd.notSynchronized (w := (.ref a_CATCH_UP)) Bd.returns rfl rfl rfl (hb hby d1_30) (by decide) (by decide) ?_
                  show Q1 Z p1 a_VALUES kA a_MEMBERS a_PULL a_STORE a_READ a_COUNT a_JOIN a_PING a_CATCH_UP a_HAND_OFF a_LOAD a_QUERY a_STATUS h0 n0 (some (.ref a_CATCH_UP)) T141.heap _
                  rw [e141]
                  exact ⟨by unfold own_of; rw [if_neg hc25_121, if_neg hc25_124, if_neg hc25_127, if_neg hc25_130, if_neg hc25_133, if_neg hc25_136, if_neg hc25_139, if_pos hc25_142], N101, E101⟩
                · refine EndsQ.go (b := T141.setTop (mkF m 31 #[.val (.int p1), .val (.ref v101), .val (.int (12 : Int32)), .val (.int (7 : Int32)), .val (.ref a_CATCH_UP)] [])) (fun t k => ?_) ?_
                  · show Steps p.tables e below (T141.setTop (mkF m 25 #[.val (.int p1), .val (.ref v101), .val (.int (12 : Int32)), .val (.int (7 : Int32)), .val (.ref a_CATCH_UP)] [(.int p1), (.int (8 : Int32))])) _
                    refine XS.icmpYes X141.here hx rfl (pc0 := 25) (pc' := 31) rfl (hb hby d1_25) rfl (feq hc25_142).2 (by decide) (by decide) ?_
                    show Steps p.tables e below (T141.setTop (mkF m 31 #[.val (.int p1), .val (.ref v101), .val (.int (12 : Int32)), .val (.int (7 : Int32)), .val (.ref a_CATCH_UP)] [])) _
                    exact k
                  refine EndsQ.go (b := T141.setTop (mkF m 16 #[.val (.int p1), .val (.ref v101), .val (.int (12 : Int32)), .val (.int (8 : Int32)), .val (.ref a_CATCH_UP)] [(.int (8 : Int32)), (.ref v101)])) (fun t k => ?_) ?_
                  · show Steps p.tables e below (T141.setTop (mkF m 31 #[.val (.int p1), .val (.ref v101), .val (.int (12 : Int32)), .val (.int (7 : Int32)), .val (.ref a_CATCH_UP)] [])) _
                    refine XS.iinc X141.here hx rfl (hb hby d1_31) rfl (l' := #[.val (.int p1), .val (.ref v101), .val (.int (12 : Int32)), .val (.int ((7 : Int32) + Int32.ofInt 1)), .val (.ref a_CATCH_UP)]) rfl ?_
                    show Steps p.tables e below (T141.setTop (mkF m 34 #[.val (.int p1), .val (.ref v101), .val (.int (12 : Int32)), .val (.int ((7 : Int32) + Int32.ofInt 1)), .val (.ref a_CATCH_UP)] [])) _
                    rw [(by decide : ((7 : Int32) + Int32.ofInt 1) = (8 : Int32))]
                    show Steps p.tables e below (T141.setTop (mkF m 34 #[.val (.int p1), .val (.ref v101), .val (.int (12 : Int32)), .val (.int (8 : Int32)), .val (.ref a_CATCH_UP)] [])) _
                    refine XS.goto X141.here hx rfl (pc0 := 34) (pc' := 9) rfl (hb hby d1_34) (by decide) (by decide) ?_
                    show Steps p.tables e below (T141.setTop (mkF m 9 #[.val (.int p1), .val (.ref v101), .val (.int (12 : Int32)), .val (.int (8 : Int32)), .val (.ref a_CATCH_UP)] [])) _
                    refine XS.iloadN X141.here hx rfl (hb hby d1_9) rfl ?_
                    show Steps p.tables e below (T141.setTop (mkF m 10 #[.val (.int p1), .val (.ref v101), .val (.int (12 : Int32)), .val (.int (8 : Int32)), .val (.ref a_CATCH_UP)] [(.int (8 : Int32))])) _
                    refine XS.iloadN X141.here hx rfl (hb hby d1_10) rfl ?_
                    show Steps p.tables e below (T141.setTop (mkF m 11 #[.val (.int p1), .val (.ref v101), .val (.int (12 : Int32)), .val (.int (8 : Int32)), .val (.ref a_CATCH_UP)] [(.int (12 : Int32)), (.int (8 : Int32))])) _
                    refine XS.icmpNo X141.here hx rfl (hb hby d1_11) rfl (tlt (by decide)).2.1 ?_
                    show Steps p.tables e below (T141.setTop (mkF m 14 #[.val (.int p1), .val (.ref v101), .val (.int (12 : Int32)), .val (.int (8 : Int32)), .val (.ref a_CATCH_UP)] [])) _
                    refine XS.aloadN X141.here hx rfl (hb hby d1_14) rfl rfl ?_
                    show Steps p.tables e below (T141.setTop (mkF m 15 #[.val (.int p1), .val (.ref v101), .val (.int (12 : Int32)), .val (.int (8 : Int32)), .val (.ref a_CATCH_UP)] [(.ref v101)])) _
                    refine XS.iloadN X141.here hx rfl (hb hby d1_15) rfl ?_
                    show Steps p.tables e below (T141.setTop (mkF m 16 #[.val (.int p1), .val (.ref v101), .val (.int (12 : Int32)), .val (.int (8 : Int32)), .val (.ref a_CATCH_UP)] [(.int (8 : Int32)), (.ref v101)])) _
                    exact k
                  obtain ⟨cl143, Ar143, q143, S143, M143, H143, G143⟩ := id VA101
                  have hin143 : ¬ ((8 : Int32) < 0 ∨ cl143.slots.size ≤ ((8 : Int32)).toNatClampNeg) := inb_of S143 ⟨by decide, by decide⟩
                  have hat143 : cl143.slots[((8 : Int32)).toNatClampNeg]? = some (.ref a_HAND_OFF) := Has.at H143 hin143 rfl
                  refine EndsQ.go (fun t k => X141.aaload hx (j := (8 : Int32)) (v := (.ref a_HAND_OFF)) (by rw [e141]; exact Ar143.1) (State.isArrayOf_alike hZ.alike Ar143.2.1) rfl Ar143.2.2 hin143 hat143 (g := (mkF m 16 #[.val (.int p1), .val (.ref v101), .val (.int (12 : Int32)), .val (.int (8 : Int32)), .val (.ref a_CATCH_UP)] [(.int (8 : Int32)), (.ref v101)])) rfl rfl (hb hby d1_16) _ k) ?_
                  show EndsQ _ _ _ _ _ _ _ (T141.setTop (mkF m 17 #[.val (.int p1), .val (.ref v101), .val (.int (12 : Int32)), .val (.int (8 : Int32)), .val (.ref a_CATCH_UP)] [(.ref a_HAND_OFF)]))
                  refine EndsQ.go (b := T141.setTop (mkF m 21 #[.val (.int p1), .val (.ref v101), .val (.int (12 : Int32)), .val (.int (8 : Int32)), .val (.ref a_HAND_OFF)] [(.ref a_HAND_OFF)])) (fun t k => ?_) ?_
                  · show Steps p.tables e below (T141.setTop (mkF m 17 #[.val (.int p1), .val (.ref v101), .val (.int (12 : Int32)), .val (.int (8 : Int32)), .val (.ref a_CATCH_UP)] [(.ref a_HAND_OFF)])) _
                    refine XS.astore X141.here hx rfl (hb hby d1_17) rfl rfl (l' := #[.val (.int p1), .val (.ref v101), .val (.int (12 : Int32)), .val (.int (8 : Int32)), .val (.ref a_HAND_OFF)]) rfl ?_
                    show Steps p.tables e below (T141.setTop (mkF m 19 #[.val (.int p1), .val (.ref v101), .val (.int (12 : Int32)), .val (.int (8 : Int32)), .val (.ref a_HAND_OFF)] [])) _
                    refine XS.aload X141.here hx rfl (hb hby d1_19) rfl rfl ?_
                    show Steps p.tables e below (T141.setTop (mkF m 21 #[.val (.int p1), .val (.ref v101), .val (.int (12 : Int32)), .val (.int (8 : Int32)), .val (.ref a_HAND_OFF)] [(.ref a_HAND_OFF)])) _
                    exact k
                  obtain ⟨T144, X144, e144, st144⟩ := getF X141 hx hZ hown (host := "") (Or.inl (hw _ (List.mem_of_getElem? (i := 32) rfl))) Via.refl e141 f113 (g := (mkF m 21 #[.val (.int p1), .val (.ref v101), .val (.int (12 : Int32)), .val (.int (8 : Int32)), .val (.ref a_HAND_OFF)] [(.ref a_HAND_OFF)])) rfl rfl (hb hby d1_21)
                  refine EndsQ.go st144 ?_
                  show EndsQ _ _ _ _ _ _ _ (T144.setTop (mkF m 24 #[.val (.int p1), .val (.ref v101), .val (.int (12 : Int32)), .val (.int (8 : Int32)), .val (.ref a_HAND_OFF)] [(.int (9 : Int32))]))
                  refine EndsQ.go (b := T144.setTop (mkF m 25 #[.val (.int p1), .val (.ref v101), .val (.int (12 : Int32)), .val (.int (8 : Int32)), .val (.ref a_HAND_OFF)] [(.int p1), (.int (9 : Int32))])) (fun t k => ?_) ?_
                  · show Steps p.tables e below (T144.setTop (mkF m 24 #[.val (.int p1), .val (.ref v101), .val (.int (12 : Int32)), .val (.int (8 : Int32)), .val (.ref a_HAND_OFF)] [(.int (9 : Int32))])) _
                    refine XS.iloadN X144.here hx rfl (hb hby d1_24) rfl ?_
                    show Steps p.tables e below (T144.setTop (mkF m 25 #[.val (.int p1), .val (.ref v101), .val (.int (12 : Int32)), .val (.int (8 : Int32)), .val (.ref a_HAND_OFF)] [(.int p1), (.int (9 : Int32))])) _
                    exact k
                  by_cases hc25_145 : (9 : Int32) = p1
                  · refine EndsQ.go (b := T144.setTop (mkF m 28 #[.val (.int p1), .val (.ref v101), .val (.int (12 : Int32)), .val (.int (8 : Int32)), .val (.ref a_HAND_OFF)] [])) (fun t k => ?_) ?_
                    · show Steps p.tables e below (T144.setTop (mkF m 25 #[.val (.int p1), .val (.ref v101), .val (.int (12 : Int32)), .val (.int (8 : Int32)), .val (.ref a_HAND_OFF)] [(.int p1), (.int (9 : Int32))])) _
                      refine XS.icmpNo X144.here hx rfl (hb hby d1_25) rfl (teq hc25_145).2 ?_
                      show Steps p.tables e below (T144.setTop (mkF m 28 #[.val (.int p1), .val (.ref v101), .val (.int (12 : Int32)), .val (.int (8 : Int32)), .val (.ref a_HAND_OFF)] [])) _
                      exact k
                    refine EndsQ.go (b := T144.setTop (mkF m 30 #[.val (.int p1), .val (.ref v101), .val (.int (12 : Int32)), .val (.int (8 : Int32)), .val (.ref a_HAND_OFF)] [(.ref a_HAND_OFF)])) (fun t k => ?_) ?_
                    · show Steps p.tables e below (T144.setTop (mkF m 28 #[.val (.int p1), .val (.ref v101), .val (.int (12 : Int32)), .val (.int (8 : Int32)), .val (.ref a_HAND_OFF)] [])) _
                      refine XS.aload X144.here hx rfl (hb hby d1_28) rfl rfl ?_
                      show Steps p.tables e below (T144.setTop (mkF m 30 #[.val (.int p1), .val (.ref v101), .val (.int (12 : Int32)), .val (.int (8 : Int32)), .val (.ref a_HAND_OFF)] [(.ref a_HAND_OFF)])) _
                      exact k
                    refine EndsQ.retA X144 hx Bd.notSynchronized (w := (.ref a_HAND_OFF)) Bd.returns rfl rfl rfl (hb hby d1_30) (by decide) (by decide) ?_
                    show Q1 Z p1 a_VALUES kA a_MEMBERS a_PULL a_STORE a_READ a_COUNT a_JOIN a_PING a_CATCH_UP a_HAND_OFF a_LOAD a_QUERY a_STATUS h0 n0 (some (.ref a_HAND_OFF)) T144.heap _
                    rw [e144]
                    exact ⟨by unfold own_of; rw [if_neg hc25_121, if_neg hc25_124, if_neg hc25_127, if_neg hc25_130, if_neg hc25_133, if_neg hc25_136, if_neg hc25_139, if_neg hc25_142, if_pos hc25_145], N101, E101⟩
                  · refine EndsQ.go (b := T144.setTop (mkF m 31 #[.val (.int p1), .val (.ref v101), .val (.int (12 : Int32)), .val (.int (8 : Int32)), .val (.ref a_HAND_OFF)] [])) (fun t k => ?_) ?_
                    · show Steps p.tables e below (T144.setTop (mkF m 25 #[.val (.int p1), .val (.ref v101), .val (.int (12 : Int32)), .val (.int (8 : Int32)), .val (.ref a_HAND_OFF)] [(.int p1), (.int (9 : Int32))])) _
                      refine XS.icmpYes X144.here hx rfl (pc0 := 25) (pc' := 31) rfl (hb hby d1_25) rfl (feq hc25_145).2 (by decide) (by decide) ?_
                      show Steps p.tables e below (T144.setTop (mkF m 31 #[.val (.int p1), .val (.ref v101), .val (.int (12 : Int32)), .val (.int (8 : Int32)), .val (.ref a_HAND_OFF)] [])) _
                      exact k
                    refine EndsQ.go (b := T144.setTop (mkF m 16 #[.val (.int p1), .val (.ref v101), .val (.int (12 : Int32)), .val (.int (9 : Int32)), .val (.ref a_HAND_OFF)] [(.int (9 : Int32)), (.ref v101)])) (fun t k => ?_) ?_
                    · show Steps p.tables e below (T144.setTop (mkF m 31 #[.val (.int p1), .val (.ref v101), .val (.int (12 : Int32)), .val (.int (8 : Int32)), .val (.ref a_HAND_OFF)] [])) _
                      refine XS.iinc X144.here hx rfl (hb hby d1_31) rfl (l' := #[.val (.int p1), .val (.ref v101), .val (.int (12 : Int32)), .val (.int ((8 : Int32) + Int32.ofInt 1)), .val (.ref a_HAND_OFF)]) rfl ?_
                      show Steps p.tables e below (T144.setTop (mkF m 34 #[.val (.int p1), .val (.ref v101), .val (.int (12 : Int32)), .val (.int ((8 : Int32) + Int32.ofInt 1)), .val (.ref a_HAND_OFF)] [])) _
                      rw [(by decide : ((8 : Int32) + Int32.ofInt 1) = (9 : Int32))]
                      show Steps p.tables e below (T144.setTop (mkF m 34 #[.val (.int p1), .val (.ref v101), .val (.int (12 : Int32)), .val (.int (9 : Int32)), .val (.ref a_HAND_OFF)] [])) _
                      refine XS.goto X144.here hx rfl (pc0 := 34) (pc' := 9) rfl (hb hby d1_34) (by decide) (by decide) ?_
                      show Steps p.tables e below (T144.setTop (mkF m 9 #[.val (.int p1), .val (.ref v101), .val (.int (12 : Int32)), .val (.int (9 : Int32)), .val (.ref a_HAND_OFF)] [])) _
                      refine XS.iloadN X144.here hx rfl (hb hby d1_9) rfl ?_
                      show Steps p.tables e below (T144.setTop (mkF m 10 #[.val (.int p1), .val (.ref v101), .val (.int (12 : Int32)), .val (.int (9 : Int32)), .val (.ref a_HAND_OFF)] [(.int (9 : Int32))])) _
                      refine XS.iloadN X144.here hx rfl (hb hby d1_10) rfl ?_
                      show Steps p.tables e below (T144.setTop (mkF m 11 #[.val (.int p1), .val (.ref v101), .val (.int (12 : Int32)), .val (.int (9 : Int32)), .val (.ref a_HAND_OFF)] [(.int (12 : Int32)), (.int (9 : Int32))])) _
                      refine XS.icmpNo X144.here hx rfl (hb hby d1_11) rfl (tlt (by decide)).2.1 ?_
                      show Steps p.tables e below (T144.setTop (mkF m 14 #[.val (.int p1), .val (.ref v101), .val (.int (12 : Int32)), .val (.int (9 : Int32)), .val (.ref a_HAND_OFF)] [])) _
                      refine XS.aloadN X144.here hx rfl (hb hby d1_14) rfl rfl ?_
                      show Steps p.tables e below (T144.setTop (mkF m 15 #[.val (.int p1), .val (.ref v101), .val (.int (12 : Int32)), .val (.int (9 : Int32)), .val (.ref a_HAND_OFF)] [(.ref v101)])) _
                      refine XS.iloadN X144.here hx rfl (hb hby d1_15) rfl ?_
                      show Steps p.tables e below (T144.setTop (mkF m 16 #[.val (.int p1), .val (.ref v101), .val (.int (12 : Int32)), .val (.int (9 : Int32)), .val (.ref a_HAND_OFF)] [(.int (9 : Int32)), (.ref v101)])) _
                      exact k
                    obtain ⟨cl146, Ar146, q146, S146, M146, H146, G146⟩ := id VA101
                    have hin146 : ¬ ((9 : Int32) < 0 ∨ cl146.slots.size ≤ ((9 : Int32)).toNatClampNeg) := inb_of S146 ⟨by decide, by decide⟩
                    have hat146 : cl146.slots[((9 : Int32)).toNatClampNeg]? = some (.ref a_LOAD) := Has.at H146 hin146 rfl
                    refine EndsQ.go (fun t k => X144.aaload hx (j := (9 : Int32)) (v := (.ref a_LOAD)) (by rw [e144]; exact Ar146.1) (State.isArrayOf_alike hZ.alike Ar146.2.1) rfl Ar146.2.2 hin146 hat146 (g := (mkF m 16 #[.val (.int p1), .val (.ref v101), .val (.int (12 : Int32)), .val (.int (9 : Int32)), .val (.ref a_HAND_OFF)] [(.int (9 : Int32)), (.ref v101)])) rfl rfl (hb hby d1_16) _ k) ?_
                    show EndsQ _ _ _ _ _ _ _ (T144.setTop (mkF m 17 #[.val (.int p1), .val (.ref v101), .val (.int (12 : Int32)), .val (.int (9 : Int32)), .val (.ref a_HAND_OFF)] [(.ref a_LOAD)]))
                    refine EndsQ.go (b := T144.setTop (mkF m 21 #[.val (.int p1), .val (.ref v101), .val (.int (12 : Int32)), .val (.int (9 : Int32)), .val (.ref a_LOAD)] [(.ref a_LOAD)])) (fun t k => ?_) ?_
                    · show Steps p.tables e below (T144.setTop (mkF m 17 #[.val (.int p1), .val (.ref v101), .val (.int (12 : Int32)), .val (.int (9 : Int32)), .val (.ref a_HAND_OFF)] [(.ref a_LOAD)])) _
                      refine XS.astore X144.here hx rfl (hb hby d1_17) rfl rfl (l' := #[.val (.int p1), .val (.ref v101), .val (.int (12 : Int32)), .val (.int (9 : Int32)), .val (.ref a_LOAD)]) rfl ?_
                      show Steps p.tables e below (T144.setTop (mkF m 19 #[.val (.int p1), .val (.ref v101), .val (.int (12 : Int32)), .val (.int (9 : Int32)), .val (.ref a_LOAD)] [])) _
                      refine XS.aload X144.here hx rfl (hb hby d1_19) rfl rfl ?_
                      show Steps p.tables e below (T144.setTop (mkF m 21 #[.val (.int p1), .val (.ref v101), .val (.int (12 : Int32)), .val (.int (9 : Int32)), .val (.ref a_LOAD)] [(.ref a_LOAD)])) _
                      exact k
                    obtain ⟨T147, X147, e147, st147⟩ := getF X144 hx hZ hown (host := "") (Or.inl (hw _ (List.mem_of_getElem? (i := 32) rfl))) Via.refl e144 f114 (g := (mkF m 21 #[.val (.int p1), .val (.ref v101), .val (.int (12 : Int32)), .val (.int (9 : Int32)), .val (.ref a_LOAD)] [(.ref a_LOAD)])) rfl rfl (hb hby d1_21)
                    refine EndsQ.go st147 ?_
                    show EndsQ _ _ _ _ _ _ _ (T147.setTop (mkF m 24 #[.val (.int p1), .val (.ref v101), .val (.int (12 : Int32)), .val (.int (9 : Int32)), .val (.ref a_LOAD)] [(.int (10 : Int32))]))
                    refine EndsQ.go (b := T147.setTop (mkF m 25 #[.val (.int p1), .val (.ref v101), .val (.int (12 : Int32)), .val (.int (9 : Int32)), .val (.ref a_LOAD)] [(.int p1), (.int (10 : Int32))])) (fun t k => ?_) ?_
                    · show Steps p.tables e below (T147.setTop (mkF m 24 #[.val (.int p1), .val (.ref v101), .val (.int (12 : Int32)), .val (.int (9 : Int32)), .val (.ref a_LOAD)] [(.int (10 : Int32))])) _
                      refine XS.iloadN X147.here hx rfl (hb hby d1_24) rfl ?_
                      show Steps p.tables e below (T147.setTop (mkF m 25 #[.val (.int p1), .val (.ref v101), .val (.int (12 : Int32)), .val (.int (9 : Int32)), .val (.ref a_LOAD)] [(.int p1), (.int (10 : Int32))])) _
                      exact k
                    by_cases hc25_148 : (10 : Int32) = p1
                    · refine EndsQ.go (b := T147.setTop (mkF m 28 #[.val (.int p1), .val (.ref v101), .val (.int (12 : Int32)), .val (.int (9 : Int32)), .val (.ref a_LOAD)] [])) (fun t k => ?_) ?_
                      · show Steps p.tables e below (T147.setTop (mkF m 25 #[.val (.int p1), .val (.ref v101), .val (.int (12 : Int32)), .val (.int (9 : Int32)), .val (.ref a_LOAD)] [(.int p1), (.int (10 : Int32))])) _
                        refine XS.icmpNo X147.here hx rfl (hb hby d1_25) rfl (teq hc25_148).2 ?_
                        show Steps p.tables e below (T147.setTop (mkF m 28 #[.val (.int p1), .val (.ref v101), .val (.int (12 : Int32)), .val (.int (9 : Int32)), .val (.ref a_LOAD)] [])) _
                        exact k
                      refine EndsQ.go (b := T147.setTop (mkF m 30 #[.val (.int p1), .val (.ref v101), .val (.int (12 : Int32)), .val (.int (9 : Int32)), .val (.ref a_LOAD)] [(.ref a_LOAD)])) (fun t k => ?_) ?_
                      · show Steps p.tables e below (T147.setTop (mkF m 28 #[.val (.int p1), .val (.ref v101), .val (.int (12 : Int32)), .val (.int (9 : Int32)), .val (.ref a_LOAD)] [])) _
                        refine XS.aload X147.here hx rfl (hb hby d1_28) rfl rfl ?_
                        show Steps p.tables e below (T147.setTop (mkF m 30 #[.val (.int p1), .val (.ref v101), .val (.int (12 : Int32)), .val (.int (9 : Int32)), .val (.ref a_LOAD)] [(.ref a_LOAD)])) _
                        exact k
                      refine EndsQ.retA X147 hx Bd.notSynchronized (w := (.ref a_LOAD)) Bd.returns rfl rfl rfl (hb hby d1_30) (by decide) (by decide) ?_
                      show Q1 Z p1 a_VALUES kA a_MEMBERS a_PULL a_STORE a_READ a_COUNT a_JOIN a_PING a_CATCH_UP a_HAND_OFF a_LOAD a_QUERY a_STATUS h0 n0 (some (.ref a_LOAD)) T147.heap _
                      rw [e147]
                      exact ⟨by unfold own_of; rw [if_neg hc25_121, if_neg hc25_124, if_neg hc25_127, if_neg hc25_130, if_neg hc25_133, if_neg hc25_136, if_neg hc25_139, if_neg hc25_142, if_neg hc25_145, if_pos hc25_148], N101, E101⟩
                    · refine EndsQ.go (b := T147.setTop (mkF m 31 #[.val (.int p1), .val (.ref v101), .val (.int (12 : Int32)), .val (.int (9 : Int32)), .val (.ref a_LOAD)] [])) (fun t k => ?_) ?_
                      · show Steps p.tables e below (T147.setTop (mkF m 25 #[.val (.int p1), .val (.ref v101), .val (.int (12 : Int32)), .val (.int (9 : Int32)), .val (.ref a_LOAD)] [(.int p1), (.int (10 : Int32))])) _
                        refine XS.icmpYes X147.here hx rfl (pc0 := 25) (pc' := 31) rfl (hb hby d1_25) rfl (feq hc25_148).2 (by decide) (by decide) ?_
                        show Steps p.tables e below (T147.setTop (mkF m 31 #[.val (.int p1), .val (.ref v101), .val (.int (12 : Int32)), .val (.int (9 : Int32)), .val (.ref a_LOAD)] [])) _
                        exact k
                      refine EndsQ.go (b := T147.setTop (mkF m 16 #[.val (.int p1), .val (.ref v101), .val (.int (12 : Int32)), .val (.int (10 : Int32)), .val (.ref a_LOAD)] [(.int (10 : Int32)), (.ref v101)])) (fun t k => ?_) ?_
                      · show Steps p.tables e below (T147.setTop (mkF m 31 #[.val (.int p1), .val (.ref v101), .val (.int (12 : Int32)), .val (.int (9 : Int32)), .val (.ref a_LOAD)] [])) _
                        refine XS.iinc X147.here hx rfl (hb hby d1_31) rfl (l' := #[.val (.int p1), .val (.ref v101), .val (.int (12 : Int32)), .val (.int ((9 : Int32) + Int32.ofInt 1)), .val (.ref a_LOAD)]) rfl ?_
                        show Steps p.tables e below (T147.setTop (mkF m 34 #[.val (.int p1), .val (.ref v101), .val (.int (12 : Int32)), .val (.int ((9 : Int32) + Int32.ofInt 1)), .val (.ref a_LOAD)] [])) _
                        rw [(by decide : ((9 : Int32) + Int32.ofInt 1) = (10 : Int32))]
                        show Steps p.tables e below (T147.setTop (mkF m 34 #[.val (.int p1), .val (.ref v101), .val (.int (12 : Int32)), .val (.int (10 : Int32)), .val (.ref a_LOAD)] [])) _
                        refine XS.goto X147.here hx rfl (pc0 := 34) (pc' := 9) rfl (hb hby d1_34) (by decide) (by decide) ?_
                        show Steps p.tables e below (T147.setTop (mkF m 9 #[.val (.int p1), .val (.ref v101), .val (.int (12 : Int32)), .val (.int (10 : Int32)), .val (.ref a_LOAD)] [])) _
                        refine XS.iloadN X147.here hx rfl (hb hby d1_9) rfl ?_
                        show Steps p.tables e below (T147.setTop (mkF m 10 #[.val (.int p1), .val (.ref v101), .val (.int (12 : Int32)), .val (.int (10 : Int32)), .val (.ref a_LOAD)] [(.int (10 : Int32))])) _
                        refine XS.iloadN X147.here hx rfl (hb hby d1_10) rfl ?_
                        show Steps p.tables e below (T147.setTop (mkF m 11 #[.val (.int p1), .val (.ref v101), .val (.int (12 : Int32)), .val (.int (10 : Int32)), .val (.ref a_LOAD)] [(.int (12 : Int32)), (.int (10 : Int32))])) _
                        refine XS.icmpNo X147.here hx rfl (hb hby d1_11) rfl (tlt (by decide)).2.1 ?_
                        show Steps p.tables e below (T147.setTop (mkF m 14 #[.val (.int p1), .val (.ref v101), .val (.int (12 : Int32)), .val (.int (10 : Int32)), .val (.ref a_LOAD)] [])) _
                        refine XS.aloadN X147.here hx rfl (hb hby d1_14) rfl rfl ?_
                        show Steps p.tables e below (T147.setTop (mkF m 15 #[.val (.int p1), .val (.ref v101), .val (.int (12 : Int32)), .val (.int (10 : Int32)), .val (.ref a_LOAD)] [(.ref v101)])) _
                        refine XS.iloadN X147.here hx rfl (hb hby d1_15) rfl ?_
                        show Steps p.tables e below (T147.setTop (mkF m 16 #[.val (.int p1), .val (.ref v101), .val (.int (12 : Int32)), .val (.int (10 : Int32)), .val (.ref a_LOAD)] [(.int (10 : Int32)), (.ref v101)])) _
                        exact k
                      obtain ⟨cl149, Ar149, q149, S149, M149, H149, G149⟩ := id VA101
                      have hin149 : ¬ ((10 : Int32) < 0 ∨ cl149.slots.size ≤ ((10 : Int32)).toNatClampNeg) := inb_of S149 ⟨by decide, by decide⟩
                      have hat149 : cl149.slots[((10 : Int32)).toNatClampNeg]? = some (.ref a_QUERY) := Has.at H149 hin149 rfl
                      refine EndsQ.go (fun t k => X147.aaload hx (j := (10 : Int32)) (v := (.ref a_QUERY)) (by rw [e147]; exact Ar149.1) (State.isArrayOf_alike hZ.alike Ar149.2.1) rfl Ar149.2.2 hin149 hat149 (g := (mkF m 16 #[.val (.int p1), .val (.ref v101), .val (.int (12 : Int32)), .val (.int (10 : Int32)), .val (.ref a_LOAD)] [(.int (10 : Int32)), (.ref v101)])) rfl rfl (hb hby d1_16) _ k) ?_
                      show EndsQ _ _ _ _ _ _ _ (T147.setTop (mkF m 17 #[.val (.int p1), .val (.ref v101), .val (.int (12 : Int32)), .val (.int (10 : Int32)), .val (.ref a_LOAD)] [(.ref a_QUERY)]))
                      refine EndsQ.go (b := T147.setTop (mkF m 21 #[.val (.int p1), .val (.ref v101), .val (.int (12 : Int32)), .val (.int (10 : Int32)), .val (.ref a_QUERY)] [(.ref a_QUERY)])) (fun t k => ?_) ?_
                      · show Steps p.tables e below (T147.setTop (mkF m 17 #[.val (.int p1), .val (.ref v101), .val (.int (12 : Int32)), .val (.int (10 : Int32)), .val (.ref a_LOAD)] [(.ref a_QUERY)])) _
                        refine XS.astore X147.here hx rfl (hb hby d1_17) rfl rfl (l' := #[.val (.int p1), .val (.ref v101), .val (.int (12 : Int32)), .val (.int (10 : Int32)), .val (.ref a_QUERY)]) rfl ?_
                        show Steps p.tables e below (T147.setTop (mkF m 19 #[.val (.int p1), .val (.ref v101), .val (.int (12 : Int32)), .val (.int (10 : Int32)), .val (.ref a_QUERY)] [])) _
                        refine XS.aload X147.here hx rfl (hb hby d1_19) rfl rfl ?_
                        show Steps p.tables e below (T147.setTop (mkF m 21 #[.val (.int p1), .val (.ref v101), .val (.int (12 : Int32)), .val (.int (10 : Int32)), .val (.ref a_QUERY)] [(.ref a_QUERY)])) _
                        exact k
                      obtain ⟨T150, X150, e150, st150⟩ := getF X147 hx hZ hown (host := "") (Or.inl (hw _ (List.mem_of_getElem? (i := 32) rfl))) Via.refl e147 f115 (g := (mkF m 21 #[.val (.int p1), .val (.ref v101), .val (.int (12 : Int32)), .val (.int (10 : Int32)), .val (.ref a_QUERY)] [(.ref a_QUERY)])) rfl rfl (hb hby d1_21)
                      refine EndsQ.go st150 ?_
                      show EndsQ _ _ _ _ _ _ _ (T150.setTop (mkF m 24 #[.val (.int p1), .val (.ref v101), .val (.int (12 : Int32)), .val (.int (10 : Int32)), .val (.ref a_QUERY)] [(.int (11 : Int32))]))
                      refine EndsQ.go (b := T150.setTop (mkF m 25 #[.val (.int p1), .val (.ref v101), .val (.int (12 : Int32)), .val (.int (10 : Int32)), .val (.ref a_QUERY)] [(.int p1), (.int (11 : Int32))])) (fun t k => ?_) ?_
                      · show Steps p.tables e below (T150.setTop (mkF m 24 #[.val (.int p1), .val (.ref v101), .val (.int (12 : Int32)), .val (.int (10 : Int32)), .val (.ref a_QUERY)] [(.int (11 : Int32))])) _
                        refine XS.iloadN X150.here hx rfl (hb hby d1_24) rfl ?_
                        show Steps p.tables e below (T150.setTop (mkF m 25 #[.val (.int p1), .val (.ref v101), .val (.int (12 : Int32)), .val (.int (10 : Int32)), .val (.ref a_QUERY)] [(.int p1), (.int (11 : Int32))])) _
                        exact k
                      by_cases hc25_151 : (11 : Int32) = p1
                      · refine EndsQ.go (b := T150.setTop (mkF m 28 #[.val (.int p1), .val (.ref v101), .val (.int (12 : Int32)), .val (.int (10 : Int32)), .val (.ref a_QUERY)] [])) (fun t k => ?_) ?_
                        · show Steps p.tables e below (T150.setTop (mkF m 25 #[.val (.int p1), .val (.ref v101), .val (.int (12 : Int32)), .val (.int (10 : Int32)), .val (.ref a_QUERY)] [(.int p1), (.int (11 : Int32))])) _
                          refine XS.icmpNo X150.here hx rfl (hb hby d1_25) rfl (teq hc25_151).2 ?_
                          show Steps p.tables e below (T150.setTop (mkF m 28 #[.val (.int p1), .val (.ref v101), .val (.int (12 : Int32)), .val (.int (10 : Int32)), .val (.ref a_QUERY)] [])) _
                          exact k
                        refine EndsQ.go (b := T150.setTop (mkF m 30 #[.val (.int p1), .val (.ref v101), .val (.int (12 : Int32)), .val (.int (10 : Int32)), .val (.ref a_QUERY)] [(.ref a_QUERY)])) (fun t k => ?_) ?_
                        · show Steps p.tables e below (T150.setTop (mkF m 28 #[.val (.int p1), .val (.ref v101), .val (.int (12 : Int32)), .val (.int (10 : Int32)), .val (.ref a_QUERY)] [])) _
                          refine XS.aload X150.here hx rfl (hb hby d1_28) rfl rfl ?_
                          show Steps p.tables e below (T150.setTop (mkF m 30 #[.val (.int p1), .val (.ref v101), .val (.int (12 : Int32)), .val (.int (10 : Int32)), .val (.ref a_QUERY)] [(.ref a_QUERY)])) _
                          exact k
                        refine EndsQ.retA X150 hx Bd.notSynchronized (w := (.ref a_QUERY)) Bd.returns rfl rfl rfl (hb hby d1_30) (by decide) (by decide) ?_
                        show Q1 Z p1 a_VALUES kA a_MEMBERS a_PULL a_STORE a_READ a_COUNT a_JOIN a_PING a_CATCH_UP a_HAND_OFF a_LOAD a_QUERY a_STATUS h0 n0 (some (.ref a_QUERY)) T150.heap _
                        rw [e150]
                        exact ⟨by unfold own_of; rw [if_neg hc25_121, if_neg hc25_124, if_neg hc25_127, if_neg hc25_130, if_neg hc25_133, if_neg hc25_136, if_neg hc25_139, if_neg hc25_142, if_neg hc25_145, if_neg hc25_148, if_pos hc25_151], N101, E101⟩
                      · refine EndsQ.go (b := T150.setTop (mkF m 31 #[.val (.int p1), .val (.ref v101), .val (.int (12 : Int32)), .val (.int (10 : Int32)), .val (.ref a_QUERY)] [])) (fun t k => ?_) ?_
                        · show Steps p.tables e below (T150.setTop (mkF m 25 #[.val (.int p1), .val (.ref v101), .val (.int (12 : Int32)), .val (.int (10 : Int32)), .val (.ref a_QUERY)] [(.int p1), (.int (11 : Int32))])) _
                          refine XS.icmpYes X150.here hx rfl (pc0 := 25) (pc' := 31) rfl (hb hby d1_25) rfl (feq hc25_151).2 (by decide) (by decide) ?_
                          show Steps p.tables e below (T150.setTop (mkF m 31 #[.val (.int p1), .val (.ref v101), .val (.int (12 : Int32)), .val (.int (10 : Int32)), .val (.ref a_QUERY)] [])) _
                          exact k
                        refine EndsQ.go (b := T150.setTop (mkF m 16 #[.val (.int p1), .val (.ref v101), .val (.int (12 : Int32)), .val (.int (11 : Int32)), .val (.ref a_QUERY)] [(.int (11 : Int32)), (.ref v101)])) (fun t k => ?_) ?_
                        · show Steps p.tables e below (T150.setTop (mkF m 31 #[.val (.int p1), .val (.ref v101), .val (.int (12 : Int32)), .val (.int (10 : Int32)), .val (.ref a_QUERY)] [])) _
                          refine XS.iinc X150.here hx rfl (hb hby d1_31) rfl (l' := #[.val (.int p1), .val (.ref v101), .val (.int (12 : Int32)), .val (.int ((10 : Int32) + Int32.ofInt 1)), .val (.ref a_QUERY)]) rfl ?_
                          show Steps p.tables e below (T150.setTop (mkF m 34 #[.val (.int p1), .val (.ref v101), .val (.int (12 : Int32)), .val (.int ((10 : Int32) + Int32.ofInt 1)), .val (.ref a_QUERY)] [])) _
                          rw [(by decide : ((10 : Int32) + Int32.ofInt 1) = (11 : Int32))]
                          show Steps p.tables e below (T150.setTop (mkF m 34 #[.val (.int p1), .val (.ref v101), .val (.int (12 : Int32)), .val (.int (11 : Int32)), .val (.ref a_QUERY)] [])) _
                          refine XS.goto X150.here hx rfl (pc0 := 34) (pc' := 9) rfl (hb hby d1_34) (by decide) (by decide) ?_
                          show Steps p.tables e below (T150.setTop (mkF m 9 #[.val (.int p1), .val (.ref v101), .val (.int (12 : Int32)), .val (.int (11 : Int32)), .val (.ref a_QUERY)] [])) _
                          refine XS.iloadN X150.here hx rfl (hb hby d1_9) rfl ?_
                          show Steps p.tables e below (T150.setTop (mkF m 10 #[.val (.int p1), .val (.ref v101), .val (.int (12 : Int32)), .val (.int (11 : Int32)), .val (.ref a_QUERY)] [(.int (11 : Int32))])) _
                          refine XS.iloadN X150.here hx rfl (hb hby d1_10) rfl ?_
                          show Steps p.tables e below (T150.setTop (mkF m 11 #[.val (.int p1), .val (.ref v101), .val (.int (12 : Int32)), .val (.int (11 : Int32)), .val (.ref a_QUERY)] [(.int (12 : Int32)), (.int (11 : Int32))])) _
                          refine XS.icmpNo X150.here hx rfl (hb hby d1_11) rfl (tlt (by decide)).2.1 ?_
                          show Steps p.tables e below (T150.setTop (mkF m 14 #[.val (.int p1), .val (.ref v101), .val (.int (12 : Int32)), .val (.int (11 : Int32)), .val (.ref a_QUERY)] [])) _
                          refine XS.aloadN X150.here hx rfl (hb hby d1_14) rfl rfl ?_
                          show Steps p.tables e below (T150.setTop (mkF m 15 #[.val (.int p1), .val (.ref v101), .val (.int (12 : Int32)), .val (.int (11 : Int32)), .val (.ref a_QUERY)] [(.ref v101)])) _
                          refine XS.iloadN X150.here hx rfl (hb hby d1_15) rfl ?_
                          show Steps p.tables e below (T150.setTop (mkF m 16 #[.val (.int p1), .val (.ref v101), .val (.int (12 : Int32)), .val (.int (11 : Int32)), .val (.ref a_QUERY)] [(.int (11 : Int32)), (.ref v101)])) _
                          exact k
                        obtain ⟨cl152, Ar152, q152, S152, M152, H152, G152⟩ := id VA101
                        have hin152 : ¬ ((11 : Int32) < 0 ∨ cl152.slots.size ≤ ((11 : Int32)).toNatClampNeg) := inb_of S152 ⟨by decide, by decide⟩
                        have hat152 : cl152.slots[((11 : Int32)).toNatClampNeg]? = some (.ref a_STATUS) := Has.at H152 hin152 rfl
                        refine EndsQ.go (fun t k => X150.aaload hx (j := (11 : Int32)) (v := (.ref a_STATUS)) (by rw [e150]; exact Ar152.1) (State.isArrayOf_alike hZ.alike Ar152.2.1) rfl Ar152.2.2 hin152 hat152 (g := (mkF m 16 #[.val (.int p1), .val (.ref v101), .val (.int (12 : Int32)), .val (.int (11 : Int32)), .val (.ref a_QUERY)] [(.int (11 : Int32)), (.ref v101)])) rfl rfl (hb hby d1_16) _ k) ?_
                        show EndsQ _ _ _ _ _ _ _ (T150.setTop (mkF m 17 #[.val (.int p1), .val (.ref v101), .val (.int (12 : Int32)), .val (.int (11 : Int32)), .val (.ref a_QUERY)] [(.ref a_STATUS)]))
                        refine EndsQ.go (b := T150.setTop (mkF m 21 #[.val (.int p1), .val (.ref v101), .val (.int (12 : Int32)), .val (.int (11 : Int32)), .val (.ref a_STATUS)] [(.ref a_STATUS)])) (fun t k => ?_) ?_
                        · show Steps p.tables e below (T150.setTop (mkF m 17 #[.val (.int p1), .val (.ref v101), .val (.int (12 : Int32)), .val (.int (11 : Int32)), .val (.ref a_QUERY)] [(.ref a_STATUS)])) _
                          refine XS.astore X150.here hx rfl (hb hby d1_17) rfl rfl (l' := #[.val (.int p1), .val (.ref v101), .val (.int (12 : Int32)), .val (.int (11 : Int32)), .val (.ref a_STATUS)]) rfl ?_
                          show Steps p.tables e below (T150.setTop (mkF m 19 #[.val (.int p1), .val (.ref v101), .val (.int (12 : Int32)), .val (.int (11 : Int32)), .val (.ref a_STATUS)] [])) _
                          refine XS.aload X150.here hx rfl (hb hby d1_19) rfl rfl ?_
                          show Steps p.tables e below (T150.setTop (mkF m 21 #[.val (.int p1), .val (.ref v101), .val (.int (12 : Int32)), .val (.int (11 : Int32)), .val (.ref a_STATUS)] [(.ref a_STATUS)])) _
                          exact k
                        obtain ⟨T153, X153, e153, st153⟩ := getF X150 hx hZ hown (host := "") (Or.inl (hw _ (List.mem_of_getElem? (i := 32) rfl))) Via.refl e150 f116 (g := (mkF m 21 #[.val (.int p1), .val (.ref v101), .val (.int (12 : Int32)), .val (.int (11 : Int32)), .val (.ref a_STATUS)] [(.ref a_STATUS)])) rfl rfl (hb hby d1_21)
                        refine EndsQ.go st153 ?_
                        show EndsQ _ _ _ _ _ _ _ (T153.setTop (mkF m 24 #[.val (.int p1), .val (.ref v101), .val (.int (12 : Int32)), .val (.int (11 : Int32)), .val (.ref a_STATUS)] [(.int (12 : Int32))]))
                        refine EndsQ.go (b := T153.setTop (mkF m 30 #[.val (.int p1), .val (.ref v101), .val (.int (12 : Int32)), .val (.int (11 : Int32)), .val (.ref a_STATUS)] [(.ref a_STATUS)])) (fun t k => ?_) ?_
                        · show Steps p.tables e below (T153.setTop (mkF m 24 #[.val (.int p1), .val (.ref v101), .val (.int (12 : Int32)), .val (.int (11 : Int32)), .val (.ref a_STATUS)] [(.int (12 : Int32))])) _
                          refine XS.iloadN X153.here hx rfl (hb hby d1_24) rfl ?_
                          show Steps p.tables e below (T153.setTop (mkF m 25 #[.val (.int p1), .val (.ref v101), .val (.int (12 : Int32)), .val (.int (11 : Int32)), .val (.ref a_STATUS)] [(.int p1), (.int (12 : Int32))])) _
                          refine XS.icmpNo X153.here hx rfl (hb hby d1_25) rfl (teq (own_last p1 hp hc25_121 hc25_124 hc25_127 hc25_130 hc25_133 hc25_136 hc25_139 hc25_142 hc25_145 hc25_148 hc25_151)).2 ?_
                          show Steps p.tables e below (T153.setTop (mkF m 28 #[.val (.int p1), .val (.ref v101), .val (.int (12 : Int32)), .val (.int (11 : Int32)), .val (.ref a_STATUS)] [])) _
                          refine XS.aload X153.here hx rfl (hb hby d1_28) rfl rfl ?_
                          show Steps p.tables e below (T153.setTop (mkF m 30 #[.val (.int p1), .val (.ref v101), .val (.int (12 : Int32)), .val (.int (11 : Int32)), .val (.ref a_STATUS)] [(.ref a_STATUS)])) _
                          exact k
                        refine EndsQ.retA X153 hx Bd.notSynchronized (w := (.ref a_STATUS)) Bd.returns rfl rfl rfl (hb hby d1_30) (by decide) (by decide) ?_
                        show Q1 Z p1 a_VALUES kA a_MEMBERS a_PULL a_STORE a_READ a_COUNT a_JOIN a_PING a_CATCH_UP a_HAND_OFF a_LOAD a_QUERY a_STATUS h0 n0 (some (.ref a_STATUS)) T153.heap _
                        rw [e153]
                        exact ⟨by unfold own_of; rw [if_neg hc25_121, if_neg hc25_124, if_neg hc25_127, if_neg hc25_130, if_neg hc25_133, if_neg hc25_136, if_neg hc25_139, if_neg hc25_142, if_neg hc25_145, if_neg hc25_148, if_neg hc25_151], N101, E101⟩
theorem ef_3 (m : MethodId) (x0 : Int32) : entryFrame m #[(.int x0)] 1 = mkF m 0 #[.val (.int x0)] [] := by first | (simp [entryFrame, mkF, argsToLocals, Value.category]; done) | rfl
def Q3 (Z : State) (p1 : Int32) (a_MEMBERS : Addr) (a_PULL : Addr) (a_STORE : Addr) (a_READ : Addr) (a_COUNT : Addr) (a_JOIN : Addr) (a_PING : Addr) (a_CATCH_UP : Addr) (a_HAND_OFF : Addr) (a_LOAD : Addr) (a_QUERY : Addr) (a_STATUS : Addr) (h0 : Heap) (n0 : Nat) (v : Option Value) (h : Heap) (L : List Loc) : Prop := v = some (.ref (own_exp p1 a_MEMBERS a_PULL a_STORE a_READ a_COUNT a_JOIN a_PING a_CATCH_UP a_HAND_OFF a_LOAD a_QUERY a_STATUS)) ∧ Fr n0 L ∧ h = h0
set_option maxRecDepth 65536 in
set_option maxHeartbeats 40000000 in
theorem rm3 (l : Launch) (Z : State) (a0 : Array Value) (hw : ∀ d ∈ tables_1, d.before a0 Z = true) (ws : List Jvm.Cond) (p1 : Int32) (a_MEMBERS : Addr) (a_PULL : Addr) (a_STORE : Addr) (a_READ : Addr) (a_COUNT : Addr) (a_JOIN : Addr) (a_PING : Addr) (a_CATCH_UP : Addr) (a_HAND_OFF : Addr) (a_LOAD : Addr) (a_QUERY : Addr) (a_STATUS : Addr) (h0 : Heap) (n0 : Nat) (Z0 : n0 ≤ h0.size) (S_MEMBERS : Sta Z h0 "com/example/chainmesh/chainmesh/Op" "MEMBERS" "Lcom/example/chainmesh/chainmesh/Op;" (.ref a_MEMBERS)) (S_PULL : Sta Z h0 "com/example/chainmesh/chainmesh/Op" "PULL" "Lcom/example/chainmesh/chainmesh/Op;" (.ref a_PULL)) (S_STORE : Sta Z h0 "com/example/chainmesh/chainmesh/Op" "STORE" "Lcom/example/chainmesh/chainmesh/Op;" (.ref a_STORE)) (S_READ : Sta Z h0 "com/example/chainmesh/chainmesh/Op" "READ" "Lcom/example/chainmesh/chainmesh/Op;" (.ref a_READ)) (S_COUNT : Sta Z h0 "com/example/chainmesh/chainmesh/Op" "COUNT" "Lcom/example/chainmesh/chainmesh/Op;" (.ref a_COUNT)) (S_JOIN : Sta Z h0 "com/example/chainmesh/chainmesh/Op" "JOIN" "Lcom/example/chainmesh/chainmesh/Op;" (.ref a_JOIN)) (S_PING : Sta Z h0 "com/example/chainmesh/chainmesh/Op" "PING" "Lcom/example/chainmesh/chainmesh/Op;" (.ref a_PING)) (S_CATCH_UP : Sta Z h0 "com/example/chainmesh/chainmesh/Op" "CATCH_UP" "Lcom/example/chainmesh/chainmesh/Op;" (.ref a_CATCH_UP)) (S_HAND_OFF : Sta Z h0 "com/example/chainmesh/chainmesh/Op" "HAND_OFF" "Lcom/example/chainmesh/chainmesh/Op;" (.ref a_HAND_OFF)) (S_LOAD : Sta Z h0 "com/example/chainmesh/chainmesh/Op" "LOAD" "Lcom/example/chainmesh/chainmesh/Op;" (.ref a_LOAD)) (S_QUERY : Sta Z h0 "com/example/chainmesh/chainmesh/Op" "QUERY" "Lcom/example/chainmesh/chainmesh/Op;" (.ref a_QUERY)) (S_STATUS : Sta Z h0 "com/example/chainmesh/chainmesh/Op" "STATUS" "Lcom/example/chainmesh/chainmesh/Op;" (.ref a_STATUS)) :
    MetFree l (⟨"com/example/chainmesh/chainmesh/OpOfPinLaw", "expected", "(I)Lcom/example/chainmesh/chainmesh/Op;"⟩ : MethodName) (head1 (Jvm.Cond.code (⟨"com/example/chainmesh/chainmesh/OpOfPinLaw", "expected", "(I)Lcom/example/chainmesh/chainmesh/Op;"⟩ : MethodName) method_2_code 1 (some (.object "com/example/chainmesh/chainmesh/Op")) :: ws) ({ frames := 0, cells := 0, slots := 0, locals := 0 } : Room)) (fun a U => a = #[(.int p1)] ∧ Z.Warmed39 U.vm ∧ U.heap = h0) (fun _ _ _ _ _ => True) (fun _ U o U' => ∃ v L, o = .returned v ∧ Q3 Z p1 a_MEMBERS a_PULL a_STORE a_READ a_COUNT a_JOIN a_PING a_CATCH_UP a_HAND_OFF a_LOAD a_QUERY a_STATUS h0 n0 v U'.heap L ∧ FrameEnd U o U' L ({ frames := 0, cells := 0, slots := 0, locals := 0 } : Room).cells ({ frames := 0, cells := 0, slots := 0, locals := 0 } : Room).slots) := by
  refine MetFree.of_bodySF (plainFor_of_name pn_3) hisR ?_
  intro p e s m args below meth c s₁ Bd hml0 hP hK
  obtain ⟨rfl, hZ, hh⟩ := hP
  have hx := Bd.exec
  have hby := Bd.bytes
  have hml : c.maxLocals = 1 := hml0
  have hown : s.vm.findClass "com/example/chainmesh/chainmesh/OpOfPinLaw" = some m.cls := findClass_of_methodNamed Bd.named
  have hnm := (name_of_methodNamed Bd.named Bd.method).1
  have X0 : Stand p l e ({ frames := 0, cells := 0, slots := 0, locals := 0 } : Room) s m #[(.int p1)] below meth c s₁ [] 0 0 := Stand.of_body Bd
  have e0 : s₁.heap = h0 := by rw [← hh, Bd.state]; rfl
  have N0 := Fr.nil n0
  show EndsQ p.tables e below s (fun v h L => Q3 Z p1 a_MEMBERS a_PULL a_STORE a_READ a_COUNT a_JOIN a_PING a_CATCH_UP a_HAND_OFF a_LOAD a_QUERY a_STATUS h0 n0 v h L) ({ frames := 0, cells := 0, slots := 0, locals := 0 } : Room).cells ({ frames := 0, cells := 0, slots := 0, locals := 0 } : Room).slots _
  refine EndsQ.go (b := s₁.setTop (mkF m 0 #[.val (.int p1)] [])) (fun t k => castTop (ef_3 m p1) k) ?_
  refine EndsQ.go (b := s₁.setTop (mkF m 2 #[.val (.int p1)] [(.int (1 : Int32)), (.int p1)])) (fun t k => ?_) ?_
  · show Steps p.tables e below (s₁.setTop (mkF m 0 #[.val (.int p1)] [])) _
    refine XS.iloadN X0.here hx rfl (hb hby d3_0) rfl ?_
    show Steps p.tables e below (s₁.setTop (mkF m 1 #[.val (.int p1)] [(.int p1)])) _
    refine XS.iconst X0.here hx rfl (hb hby d3_1) ?_
    show Steps p.tables e below (s₁.setTop (mkF m 2 #[.val (.int p1)] [(.int (1 : Int32)), (.int p1)])) _
    exact k
  by_cases hc2_101 : p1 = (1 : Int32)
  · refine EndsQ.go (b := s₁.setTop (mkF m 5 #[.val (.int p1)] [])) (fun t k => ?_) ?_
    · show Steps p.tables e below (s₁.setTop (mkF m 2 #[.val (.int p1)] [(.int (1 : Int32)), (.int p1)])) _
      refine XS.icmpNo X0.here hx rfl (hb hby d3_2) rfl (teq hc2_101).2 ?_
      show Steps p.tables e below (s₁.setTop (mkF m 5 #[.val (.int p1)] [])) _
      exact k
    obtain ⟨T102, X102, e102, st102⟩ := getS X0 hx hZ hown (host := "") (hw _ (List.mem_of_getElem? (i := 38) rfl)) Via.refl e0 S_MEMBERS (g := (mkF m 5 #[.val (.int p1)] [])) rfl (hb hby d3_5)
    refine EndsQ.go st102 ?_
    show EndsQ _ _ _ _ _ _ _ (T102.setTop (mkF m 8 #[.val (.int p1)] [(.ref a_MEMBERS)]))
    refine EndsQ.retA X102 hx Bd.notSynchronized (w := (.ref a_MEMBERS)) Bd.returns rfl rfl rfl (hb hby d3_8) (by decide) (by decide) ?_
    show Q3 Z p1 a_MEMBERS a_PULL a_STORE a_READ a_COUNT a_JOIN a_PING a_CATCH_UP a_HAND_OFF a_LOAD a_QUERY a_STATUS h0 n0 (some (.ref a_MEMBERS)) T102.heap _
    rw [e102]
    exact ⟨by unfold own_exp; rw [if_pos hc2_101], N0, rfl⟩
  · refine EndsQ.go (b := s₁.setTop (mkF m 9 #[.val (.int p1)] [])) (fun t k => ?_) ?_
    · show Steps p.tables e below (s₁.setTop (mkF m 2 #[.val (.int p1)] [(.int (1 : Int32)), (.int p1)])) _
      refine XS.icmpYes X0.here hx rfl (pc0 := 2) (pc' := 9) rfl (hb hby d3_2) rfl (feq hc2_101).2 (by decide) (by decide) ?_
      show Steps p.tables e below (s₁.setTop (mkF m 9 #[.val (.int p1)] [])) _
      exact k
    refine EndsQ.go (b := s₁.setTop (mkF m 11 #[.val (.int p1)] [(.int (2 : Int32)), (.int p1)])) (fun t k => ?_) ?_
    · show Steps p.tables e below (s₁.setTop (mkF m 9 #[.val (.int p1)] [])) _
      refine XS.iloadN X0.here hx rfl (hb hby d3_9) rfl ?_
      show Steps p.tables e below (s₁.setTop (mkF m 10 #[.val (.int p1)] [(.int p1)])) _
      refine XS.iconst X0.here hx rfl (hb hby d3_10) ?_
      show Steps p.tables e below (s₁.setTop (mkF m 11 #[.val (.int p1)] [(.int (2 : Int32)), (.int p1)])) _
      exact k
    by_cases hc11_103 : p1 = (2 : Int32)
    · refine EndsQ.go (b := s₁.setTop (mkF m 14 #[.val (.int p1)] [])) (fun t k => ?_) ?_
      · show Steps p.tables e below (s₁.setTop (mkF m 11 #[.val (.int p1)] [(.int (2 : Int32)), (.int p1)])) _
        refine XS.icmpNo X0.here hx rfl (hb hby d3_11) rfl (teq hc11_103).2 ?_
        show Steps p.tables e below (s₁.setTop (mkF m 14 #[.val (.int p1)] [])) _
        exact k
      obtain ⟨T104, X104, e104, st104⟩ := getS X0 hx hZ hown (host := "") (hw _ (List.mem_of_getElem? (i := 50) rfl)) Via.refl e0 S_PULL (g := (mkF m 14 #[.val (.int p1)] [])) rfl (hb hby d3_14)
      refine EndsQ.go st104 ?_
      show EndsQ _ _ _ _ _ _ _ (T104.setTop (mkF m 17 #[.val (.int p1)] [(.ref a_PULL)]))
      refine EndsQ.retA X104 hx Bd.notSynchronized (w := (.ref a_PULL)) Bd.returns rfl rfl rfl (hb hby d3_17) (by decide) (by decide) ?_
      show Q3 Z p1 a_MEMBERS a_PULL a_STORE a_READ a_COUNT a_JOIN a_PING a_CATCH_UP a_HAND_OFF a_LOAD a_QUERY a_STATUS h0 n0 (some (.ref a_PULL)) T104.heap _
      rw [e104]
      exact ⟨by unfold own_exp; rw [if_neg hc2_101, if_pos hc11_103], N0, rfl⟩
    · refine EndsQ.go (b := s₁.setTop (mkF m 18 #[.val (.int p1)] [])) (fun t k => ?_) ?_
      · show Steps p.tables e below (s₁.setTop (mkF m 11 #[.val (.int p1)] [(.int (2 : Int32)), (.int p1)])) _
        refine XS.icmpYes X0.here hx rfl (pc0 := 11) (pc' := 18) rfl (hb hby d3_11) rfl (feq hc11_103).2 (by decide) (by decide) ?_
        show Steps p.tables e below (s₁.setTop (mkF m 18 #[.val (.int p1)] [])) _
        exact k
      refine EndsQ.go (b := s₁.setTop (mkF m 20 #[.val (.int p1)] [(.int (3 : Int32)), (.int p1)])) (fun t k => ?_) ?_
      · show Steps p.tables e below (s₁.setTop (mkF m 18 #[.val (.int p1)] [])) _
        refine XS.iloadN X0.here hx rfl (hb hby d3_18) rfl ?_
        show Steps p.tables e below (s₁.setTop (mkF m 19 #[.val (.int p1)] [(.int p1)])) _
        refine XS.iconst X0.here hx rfl (hb hby d3_19) ?_
        show Steps p.tables e below (s₁.setTop (mkF m 20 #[.val (.int p1)] [(.int (3 : Int32)), (.int p1)])) _
        exact k
      by_cases hc20_105 : p1 = (3 : Int32)
      · refine EndsQ.go (b := s₁.setTop (mkF m 23 #[.val (.int p1)] [])) (fun t k => ?_) ?_
        · show Steps p.tables e below (s₁.setTop (mkF m 20 #[.val (.int p1)] [(.int (3 : Int32)), (.int p1)])) _
          refine XS.icmpNo X0.here hx rfl (hb hby d3_20) rfl (teq hc20_105).2 ?_
          show Steps p.tables e below (s₁.setTop (mkF m 23 #[.val (.int p1)] [])) _
          exact k
        obtain ⟨T106, X106, e106, st106⟩ := getS X0 hx hZ hown (host := "") (hw _ (List.mem_of_getElem? (i := 45) rfl)) Via.refl e0 S_STORE (g := (mkF m 23 #[.val (.int p1)] [])) rfl (hb hby d3_23)
        refine EndsQ.go st106 ?_
        show EndsQ _ _ _ _ _ _ _ (T106.setTop (mkF m 26 #[.val (.int p1)] [(.ref a_STORE)]))
        refine EndsQ.retA X106 hx Bd.notSynchronized (w := (.ref a_STORE)) Bd.returns rfl rfl rfl (hb hby d3_26) (by decide) (by decide) ?_
        show Q3 Z p1 a_MEMBERS a_PULL a_STORE a_READ a_COUNT a_JOIN a_PING a_CATCH_UP a_HAND_OFF a_LOAD a_QUERY a_STATUS h0 n0 (some (.ref a_STORE)) T106.heap _
        rw [e106]
        exact ⟨by unfold own_exp; rw [if_neg hc2_101, if_neg hc11_103, if_pos hc20_105], N0, rfl⟩
      · refine EndsQ.go (b := s₁.setTop (mkF m 27 #[.val (.int p1)] [])) (fun t k => ?_) ?_
        · show Steps p.tables e below (s₁.setTop (mkF m 20 #[.val (.int p1)] [(.int (3 : Int32)), (.int p1)])) _
          refine XS.icmpYes X0.here hx rfl (pc0 := 20) (pc' := 27) rfl (hb hby d3_20) rfl (feq hc20_105).2 (by decide) (by decide) ?_
          show Steps p.tables e below (s₁.setTop (mkF m 27 #[.val (.int p1)] [])) _
          exact k
        refine EndsQ.go (b := s₁.setTop (mkF m 29 #[.val (.int p1)] [(.int (4 : Int32)), (.int p1)])) (fun t k => ?_) ?_
        · show Steps p.tables e below (s₁.setTop (mkF m 27 #[.val (.int p1)] [])) _
          refine XS.iloadN X0.here hx rfl (hb hby d3_27) rfl ?_
          show Steps p.tables e below (s₁.setTop (mkF m 28 #[.val (.int p1)] [(.int p1)])) _
          refine XS.iconst X0.here hx rfl (hb hby d3_28) ?_
          show Steps p.tables e below (s₁.setTop (mkF m 29 #[.val (.int p1)] [(.int (4 : Int32)), (.int p1)])) _
          exact k
        by_cases hc29_107 : p1 = (4 : Int32)
        · refine EndsQ.go (b := s₁.setTop (mkF m 32 #[.val (.int p1)] [])) (fun t k => ?_) ?_
          · show Steps p.tables e below (s₁.setTop (mkF m 29 #[.val (.int p1)] [(.int (4 : Int32)), (.int p1)])) _
            refine XS.icmpNo X0.here hx rfl (hb hby d3_29) rfl (teq hc29_107).2 ?_
            show Steps p.tables e below (s₁.setTop (mkF m 32 #[.val (.int p1)] [])) _
            exact k
          obtain ⟨T108, X108, e108, st108⟩ := getS X0 hx hZ hown (host := "") (hw _ (List.mem_of_getElem? (i := 44) rfl)) Via.refl e0 S_READ (g := (mkF m 32 #[.val (.int p1)] [])) rfl (hb hby d3_32)
          refine EndsQ.go st108 ?_
          show EndsQ _ _ _ _ _ _ _ (T108.setTop (mkF m 35 #[.val (.int p1)] [(.ref a_READ)]))
          refine EndsQ.retA X108 hx Bd.notSynchronized (w := (.ref a_READ)) Bd.returns rfl rfl rfl (hb hby d3_35) (by decide) (by decide) ?_
          show Q3 Z p1 a_MEMBERS a_PULL a_STORE a_READ a_COUNT a_JOIN a_PING a_CATCH_UP a_HAND_OFF a_LOAD a_QUERY a_STATUS h0 n0 (some (.ref a_READ)) T108.heap _
          rw [e108]
          exact ⟨by unfold own_exp; rw [if_neg hc2_101, if_neg hc11_103, if_neg hc20_105, if_pos hc29_107], N0, rfl⟩
        · refine EndsQ.go (b := s₁.setTop (mkF m 36 #[.val (.int p1)] [])) (fun t k => ?_) ?_
          · show Steps p.tables e below (s₁.setTop (mkF m 29 #[.val (.int p1)] [(.int (4 : Int32)), (.int p1)])) _
            refine XS.icmpYes X0.here hx rfl (pc0 := 29) (pc' := 36) rfl (hb hby d3_29) rfl (feq hc29_107).2 (by decide) (by decide) ?_
            show Steps p.tables e below (s₁.setTop (mkF m 36 #[.val (.int p1)] [])) _
            exact k
          refine EndsQ.go (b := s₁.setTop (mkF m 38 #[.val (.int p1)] [(.int (5 : Int32)), (.int p1)])) (fun t k => ?_) ?_
          · show Steps p.tables e below (s₁.setTop (mkF m 36 #[.val (.int p1)] [])) _
            refine XS.iloadN X0.here hx rfl (hb hby d3_36) rfl ?_
            show Steps p.tables e below (s₁.setTop (mkF m 37 #[.val (.int p1)] [(.int p1)])) _
            refine XS.iconst X0.here hx rfl (hb hby d3_37) ?_
            show Steps p.tables e below (s₁.setTop (mkF m 38 #[.val (.int p1)] [(.int (5 : Int32)), (.int p1)])) _
            exact k
          by_cases hc38_109 : p1 = (5 : Int32)
          · refine EndsQ.go (b := s₁.setTop (mkF m 41 #[.val (.int p1)] [])) (fun t k => ?_) ?_
            · show Steps p.tables e below (s₁.setTop (mkF m 38 #[.val (.int p1)] [(.int (5 : Int32)), (.int p1)])) _
              refine XS.icmpNo X0.here hx rfl (hb hby d3_38) rfl (teq hc38_109).2 ?_
              show Steps p.tables e below (s₁.setTop (mkF m 41 #[.val (.int p1)] [])) _
              exact k
            obtain ⟨T110, X110, e110, st110⟩ := getS X0 hx hZ hown (host := "") (hw _ (List.mem_of_getElem? (i := 48) rfl)) Via.refl e0 S_COUNT (g := (mkF m 41 #[.val (.int p1)] [])) rfl (hb hby d3_41)
            refine EndsQ.go st110 ?_
            show EndsQ _ _ _ _ _ _ _ (T110.setTop (mkF m 44 #[.val (.int p1)] [(.ref a_COUNT)]))
            refine EndsQ.retA X110 hx Bd.notSynchronized (w := (.ref a_COUNT)) Bd.returns rfl rfl rfl (hb hby d3_44) (by decide) (by decide) ?_
            show Q3 Z p1 a_MEMBERS a_PULL a_STORE a_READ a_COUNT a_JOIN a_PING a_CATCH_UP a_HAND_OFF a_LOAD a_QUERY a_STATUS h0 n0 (some (.ref a_COUNT)) T110.heap _
            rw [e110]
            exact ⟨by unfold own_exp; rw [if_neg hc2_101, if_neg hc11_103, if_neg hc20_105, if_neg hc29_107, if_pos hc38_109], N0, rfl⟩
          · refine EndsQ.go (b := s₁.setTop (mkF m 45 #[.val (.int p1)] [])) (fun t k => ?_) ?_
            · show Steps p.tables e below (s₁.setTop (mkF m 38 #[.val (.int p1)] [(.int (5 : Int32)), (.int p1)])) _
              refine XS.icmpYes X0.here hx rfl (pc0 := 38) (pc' := 45) rfl (hb hby d3_38) rfl (feq hc38_109).2 (by decide) (by decide) ?_
              show Steps p.tables e below (s₁.setTop (mkF m 45 #[.val (.int p1)] [])) _
              exact k
            refine EndsQ.go (b := s₁.setTop (mkF m 48 #[.val (.int p1)] [(.int (6 : Int32)), (.int p1)])) (fun t k => ?_) ?_
            · show Steps p.tables e below (s₁.setTop (mkF m 45 #[.val (.int p1)] [])) _
              refine XS.iloadN X0.here hx rfl (hb hby d3_45) rfl ?_
              show Steps p.tables e below (s₁.setTop (mkF m 46 #[.val (.int p1)] [(.int p1)])) _
              refine XS.bipush X0.here hx rfl (hb hby d3_46) ?_
              show Steps p.tables e below (s₁.setTop (mkF m 48 #[.val (.int p1)] [(.int (6 : Int32)), (.int p1)])) _
              exact k
            by_cases hc48_111 : p1 = (6 : Int32)
            · refine EndsQ.go (b := s₁.setTop (mkF m 51 #[.val (.int p1)] [])) (fun t k => ?_) ?_
              · show Steps p.tables e below (s₁.setTop (mkF m 48 #[.val (.int p1)] [(.int (6 : Int32)), (.int p1)])) _
                refine XS.icmpNo X0.here hx rfl (hb hby d3_48) rfl (teq hc48_111).2 ?_
                show Steps p.tables e below (s₁.setTop (mkF m 51 #[.val (.int p1)] [])) _
                exact k
              obtain ⟨T112, X112, e112, st112⟩ := getS X0 hx hZ hown (host := "") (hw _ (List.mem_of_getElem? (i := 54) rfl)) Via.refl e0 S_JOIN (g := (mkF m 51 #[.val (.int p1)] [])) rfl (hb hby d3_51)
              refine EndsQ.go st112 ?_
              show EndsQ _ _ _ _ _ _ _ (T112.setTop (mkF m 54 #[.val (.int p1)] [(.ref a_JOIN)]))
              refine EndsQ.retA X112 hx Bd.notSynchronized (w := (.ref a_JOIN)) Bd.returns rfl rfl rfl (hb hby d3_54) (by decide) (by decide) ?_
              show Q3 Z p1 a_MEMBERS a_PULL a_STORE a_READ a_COUNT a_JOIN a_PING a_CATCH_UP a_HAND_OFF a_LOAD a_QUERY a_STATUS h0 n0 (some (.ref a_JOIN)) T112.heap _
              rw [e112]
              exact ⟨by unfold own_exp; rw [if_neg hc2_101, if_neg hc11_103, if_neg hc20_105, if_neg hc29_107, if_neg hc38_109, if_pos hc48_111], N0, rfl⟩
            · refine EndsQ.go (b := s₁.setTop (mkF m 55 #[.val (.int p1)] [])) (fun t k => ?_) ?_
              · show Steps p.tables e below (s₁.setTop (mkF m 48 #[.val (.int p1)] [(.int (6 : Int32)), (.int p1)])) _
                refine XS.icmpYes X0.here hx rfl (pc0 := 48) (pc' := 55) rfl (hb hby d3_48) rfl (feq hc48_111).2 (by decide) (by decide) ?_
                show Steps p.tables e below (s₁.setTop (mkF m 55 #[.val (.int p1)] [])) _
                exact k
              refine EndsQ.go (b := s₁.setTop (mkF m 58 #[.val (.int p1)] [(.int (7 : Int32)), (.int p1)])) (fun t k => ?_) ?_
              · show Steps p.tables e below (s₁.setTop (mkF m 55 #[.val (.int p1)] [])) _
                refine XS.iloadN X0.here hx rfl (hb hby d3_55) rfl ?_
                show Steps p.tables e below (s₁.setTop (mkF m 56 #[.val (.int p1)] [(.int p1)])) _
                refine XS.bipush X0.here hx rfl (hb hby d3_56) ?_
                show Steps p.tables e below (s₁.setTop (mkF m 58 #[.val (.int p1)] [(.int (7 : Int32)), (.int p1)])) _
                exact k
              by_cases hc58_113 : p1 = (7 : Int32)
              · refine EndsQ.go (b := s₁.setTop (mkF m 61 #[.val (.int p1)] [])) (fun t k => ?_) ?_
                · show Steps p.tables e below (s₁.setTop (mkF m 58 #[.val (.int p1)] [(.int (7 : Int32)), (.int p1)])) _
                  refine XS.icmpNo X0.here hx rfl (hb hby d3_58) rfl (teq hc58_113).2 ?_
                  show Steps p.tables e below (s₁.setTop (mkF m 61 #[.val (.int p1)] [])) _
                  exact k
                obtain ⟨T114, X114, e114, st114⟩ := getS X0 hx hZ hown (host := "") (hw _ (List.mem_of_getElem? (i := 53) rfl)) Via.refl e0 S_PING (g := (mkF m 61 #[.val (.int p1)] [])) rfl (hb hby d3_61)
                refine EndsQ.go st114 ?_
                show EndsQ _ _ _ _ _ _ _ (T114.setTop (mkF m 64 #[.val (.int p1)] [(.ref a_PING)]))
                refine EndsQ.retA X114 hx Bd.notSynchronized (w := (.ref a_PING)) Bd.returns rfl rfl rfl (hb hby d3_64) (by decide) (by decide) ?_
                show Q3 Z p1 a_MEMBERS a_PULL a_STORE a_READ a_COUNT a_JOIN a_PING a_CATCH_UP a_HAND_OFF a_LOAD a_QUERY a_STATUS h0 n0 (some (.ref a_PING)) T114.heap _
                rw [e114]
                exact ⟨by unfold own_exp; rw [if_neg hc2_101, if_neg hc11_103, if_neg hc20_105, if_neg hc29_107, if_neg hc38_109, if_neg hc48_111, if_pos hc58_113], N0, rfl⟩
              · refine EndsQ.go (b := s₁.setTop (mkF m 65 #[.val (.int p1)] [])) (fun t k => ?_) ?_
                · show Steps p.tables e below (s₁.setTop (mkF m 58 #[.val (.int p1)] [(.int (7 : Int32)), (.int p1)])) _
                  refine XS.icmpYes X0.here hx rfl (pc0 := 58) (pc' := 65) rfl (hb hby d3_58) rfl (feq hc58_113).2 (by decide) (by decide) ?_
                  show Steps p.tables e below (s₁.setTop (mkF m 65 #[.val (.int p1)] [])) _
                  exact k
                refine EndsQ.go (b := s₁.setTop (mkF m 68 #[.val (.int p1)] [(.int (8 : Int32)), (.int p1)])) (fun t k => ?_) ?_
                · show Steps p.tables e below (s₁.setTop (mkF m 65 #[.val (.int p1)] [])) _
                  refine XS.iloadN X0.here hx rfl (hb hby d3_65) rfl ?_
                  show Steps p.tables e below (s₁.setTop (mkF m 66 #[.val (.int p1)] [(.int p1)])) _
                  refine XS.bipush X0.here hx rfl (hb hby d3_66) ?_
                  show Steps p.tables e below (s₁.setTop (mkF m 68 #[.val (.int p1)] [(.int (8 : Int32)), (.int p1)])) _
                  exact k
                by_cases hc68_115 : p1 = (8 : Int32)
                · refine EndsQ.go (b := s₁.setTop (mkF m 71 #[.val (.int p1)] [])) (fun t k => ?_) ?_
                  · show Steps p.tables e below (s₁.setTop (mkF m 68 #[.val (.int p1)] [(.int (8 : Int32)), (.int p1)])) _
                    refine XS.icmpNo X0.here hx rfl (hb hby d3_68) rfl (teq hc68_115).2 ?_
                    show Steps p.tables e below (s₁.setTop (mkF m 71 #[.val (.int p1)] [])) _
                    exact k
                  obtain ⟨T116, X116, e116, st116⟩ := getS X0 hx hZ hown (host := "") (hw _ (List.mem_of_getElem? (i := 46) rfl)) Via.refl e0 S_CATCH_UP (g := (mkF m 71 #[.val (.int p1)] [])) rfl (hb hby d3_71)
                  refine EndsQ.go st116 ?_
                  show EndsQ _ _ _ _ _ _ _ (T116.setTop (mkF m 74 #[.val (.int p1)] [(.ref a_CATCH_UP)]))
                  refine EndsQ.retA X116 hx Bd.notSynchronized (w := (.ref a_CATCH_UP)) Bd.returns rfl rfl rfl (hb hby d3_74) (by decide) (by decide) ?_
                  show Q3 Z p1 a_MEMBERS a_PULL a_STORE a_READ a_COUNT a_JOIN a_PING a_CATCH_UP a_HAND_OFF a_LOAD a_QUERY a_STATUS h0 n0 (some (.ref a_CATCH_UP)) T116.heap _
                  rw [e116]
                  exact ⟨by unfold own_exp; rw [if_neg hc2_101, if_neg hc11_103, if_neg hc20_105, if_neg hc29_107, if_neg hc38_109, if_neg hc48_111, if_neg hc58_113, if_pos hc68_115], N0, rfl⟩
                · refine EndsQ.go (b := s₁.setTop (mkF m 75 #[.val (.int p1)] [])) (fun t k => ?_) ?_
                  · show Steps p.tables e below (s₁.setTop (mkF m 68 #[.val (.int p1)] [(.int (8 : Int32)), (.int p1)])) _
                    refine XS.icmpYes X0.here hx rfl (pc0 := 68) (pc' := 75) rfl (hb hby d3_68) rfl (feq hc68_115).2 (by decide) (by decide) ?_
                    show Steps p.tables e below (s₁.setTop (mkF m 75 #[.val (.int p1)] [])) _
                    exact k
                  refine EndsQ.go (b := s₁.setTop (mkF m 78 #[.val (.int p1)] [(.int (9 : Int32)), (.int p1)])) (fun t k => ?_) ?_
                  · show Steps p.tables e below (s₁.setTop (mkF m 75 #[.val (.int p1)] [])) _
                    refine XS.iloadN X0.here hx rfl (hb hby d3_75) rfl ?_
                    show Steps p.tables e below (s₁.setTop (mkF m 76 #[.val (.int p1)] [(.int p1)])) _
                    refine XS.bipush X0.here hx rfl (hb hby d3_76) ?_
                    show Steps p.tables e below (s₁.setTop (mkF m 78 #[.val (.int p1)] [(.int (9 : Int32)), (.int p1)])) _
                    exact k
                  by_cases hc78_117 : p1 = (9 : Int32)
                  · refine EndsQ.go (b := s₁.setTop (mkF m 81 #[.val (.int p1)] [])) (fun t k => ?_) ?_
                    · show Steps p.tables e below (s₁.setTop (mkF m 78 #[.val (.int p1)] [(.int (9 : Int32)), (.int p1)])) _
                      refine XS.icmpNo X0.here hx rfl (hb hby d3_78) rfl (teq hc78_117).2 ?_
                      show Steps p.tables e below (s₁.setTop (mkF m 81 #[.val (.int p1)] [])) _
                      exact k
                    obtain ⟨T118, X118, e118, st118⟩ := getS X0 hx hZ hown (host := "") (hw _ (List.mem_of_getElem? (i := 49) rfl)) Via.refl e0 S_HAND_OFF (g := (mkF m 81 #[.val (.int p1)] [])) rfl (hb hby d3_81)
                    refine EndsQ.go st118 ?_
                    show EndsQ _ _ _ _ _ _ _ (T118.setTop (mkF m 84 #[.val (.int p1)] [(.ref a_HAND_OFF)]))
                    refine EndsQ.retA X118 hx Bd.notSynchronized (w := (.ref a_HAND_OFF)) Bd.returns rfl rfl rfl (hb hby d3_84) (by decide) (by decide) ?_
                    show Q3 Z p1 a_MEMBERS a_PULL a_STORE a_READ a_COUNT a_JOIN a_PING a_CATCH_UP a_HAND_OFF a_LOAD a_QUERY a_STATUS h0 n0 (some (.ref a_HAND_OFF)) T118.heap _
                    rw [e118]
                    exact ⟨by unfold own_exp; rw [if_neg hc2_101, if_neg hc11_103, if_neg hc20_105, if_neg hc29_107, if_neg hc38_109, if_neg hc48_111, if_neg hc58_113, if_neg hc68_115, if_pos hc78_117], N0, rfl⟩
                  · refine EndsQ.go (b := s₁.setTop (mkF m 85 #[.val (.int p1)] [])) (fun t k => ?_) ?_
                    · show Steps p.tables e below (s₁.setTop (mkF m 78 #[.val (.int p1)] [(.int (9 : Int32)), (.int p1)])) _
                      refine XS.icmpYes X0.here hx rfl (pc0 := 78) (pc' := 85) rfl (hb hby d3_78) rfl (feq hc78_117).2 (by decide) (by decide) ?_
                      show Steps p.tables e below (s₁.setTop (mkF m 85 #[.val (.int p1)] [])) _
                      exact k
                    refine EndsQ.go (b := s₁.setTop (mkF m 88 #[.val (.int p1)] [(.int (10 : Int32)), (.int p1)])) (fun t k => ?_) ?_
                    · show Steps p.tables e below (s₁.setTop (mkF m 85 #[.val (.int p1)] [])) _
                      refine XS.iloadN X0.here hx rfl (hb hby d3_85) rfl ?_
                      show Steps p.tables e below (s₁.setTop (mkF m 86 #[.val (.int p1)] [(.int p1)])) _
                      refine XS.bipush X0.here hx rfl (hb hby d3_86) ?_
                      show Steps p.tables e below (s₁.setTop (mkF m 88 #[.val (.int p1)] [(.int (10 : Int32)), (.int p1)])) _
                      exact k
                    by_cases hc88_119 : p1 = (10 : Int32)
                    · refine EndsQ.go (b := s₁.setTop (mkF m 91 #[.val (.int p1)] [])) (fun t k => ?_) ?_
                      · show Steps p.tables e below (s₁.setTop (mkF m 88 #[.val (.int p1)] [(.int (10 : Int32)), (.int p1)])) _
                        refine XS.icmpNo X0.here hx rfl (hb hby d3_88) rfl (teq hc88_119).2 ?_
                        show Steps p.tables e below (s₁.setTop (mkF m 91 #[.val (.int p1)] [])) _
                        exact k
                      obtain ⟨T120, X120, e120, st120⟩ := getS X0 hx hZ hown (host := "") (hw _ (List.mem_of_getElem? (i := 52) rfl)) Via.refl e0 S_LOAD (g := (mkF m 91 #[.val (.int p1)] [])) rfl (hb hby d3_91)
                      refine EndsQ.go st120 ?_
                      show EndsQ _ _ _ _ _ _ _ (T120.setTop (mkF m 94 #[.val (.int p1)] [(.ref a_LOAD)]))
                      refine EndsQ.retA X120 hx Bd.notSynchronized (w := (.ref a_LOAD)) Bd.returns rfl rfl rfl (hb hby d3_94) (by decide) (by decide) ?_
                      show Q3 Z p1 a_MEMBERS a_PULL a_STORE a_READ a_COUNT a_JOIN a_PING a_CATCH_UP a_HAND_OFF a_LOAD a_QUERY a_STATUS h0 n0 (some (.ref a_LOAD)) T120.heap _
                      rw [e120]
                      exact ⟨by unfold own_exp; rw [if_neg hc2_101, if_neg hc11_103, if_neg hc20_105, if_neg hc29_107, if_neg hc38_109, if_neg hc48_111, if_neg hc58_113, if_neg hc68_115, if_neg hc78_117, if_pos hc88_119], N0, rfl⟩
                    · refine EndsQ.go (b := s₁.setTop (mkF m 95 #[.val (.int p1)] [])) (fun t k => ?_) ?_
                      · show Steps p.tables e below (s₁.setTop (mkF m 88 #[.val (.int p1)] [(.int (10 : Int32)), (.int p1)])) _
                        refine XS.icmpYes X0.here hx rfl (pc0 := 88) (pc' := 95) rfl (hb hby d3_88) rfl (feq hc88_119).2 (by decide) (by decide) ?_
                        show Steps p.tables e below (s₁.setTop (mkF m 95 #[.val (.int p1)] [])) _
                        exact k
                      refine EndsQ.go (b := s₁.setTop (mkF m 98 #[.val (.int p1)] [(.int (11 : Int32)), (.int p1)])) (fun t k => ?_) ?_
                      · show Steps p.tables e below (s₁.setTop (mkF m 95 #[.val (.int p1)] [])) _
                        refine XS.iloadN X0.here hx rfl (hb hby d3_95) rfl ?_
                        show Steps p.tables e below (s₁.setTop (mkF m 96 #[.val (.int p1)] [(.int p1)])) _
                        refine XS.bipush X0.here hx rfl (hb hby d3_96) ?_
                        show Steps p.tables e below (s₁.setTop (mkF m 98 #[.val (.int p1)] [(.int (11 : Int32)), (.int p1)])) _
                        exact k
                      by_cases hc98_121 : p1 = (11 : Int32)
                      · refine EndsQ.go (b := s₁.setTop (mkF m 101 #[.val (.int p1)] [])) (fun t k => ?_) ?_
                        · show Steps p.tables e below (s₁.setTop (mkF m 98 #[.val (.int p1)] [(.int (11 : Int32)), (.int p1)])) _
                          refine XS.icmpNo X0.here hx rfl (hb hby d3_98) rfl (teq hc98_121).2 ?_
                          show Steps p.tables e below (s₁.setTop (mkF m 101 #[.val (.int p1)] [])) _
                          exact k
                        obtain ⟨T122, X122, e122, st122⟩ := getS X0 hx hZ hown (host := "") (hw _ (List.mem_of_getElem? (i := 51) rfl)) Via.refl e0 S_QUERY (g := (mkF m 101 #[.val (.int p1)] [])) rfl (hb hby d3_101)
                        refine EndsQ.go st122 ?_
                        show EndsQ _ _ _ _ _ _ _ (T122.setTop (mkF m 104 #[.val (.int p1)] [(.ref a_QUERY)]))
                        refine EndsQ.retA X122 hx Bd.notSynchronized (w := (.ref a_QUERY)) Bd.returns rfl rfl rfl (hb hby d3_104) (by decide) (by decide) ?_
                        show Q3 Z p1 a_MEMBERS a_PULL a_STORE a_READ a_COUNT a_JOIN a_PING a_CATCH_UP a_HAND_OFF a_LOAD a_QUERY a_STATUS h0 n0 (some (.ref a_QUERY)) T122.heap _
                        rw [e122]
                        exact ⟨by unfold own_exp; rw [if_neg hc2_101, if_neg hc11_103, if_neg hc20_105, if_neg hc29_107, if_neg hc38_109, if_neg hc48_111, if_neg hc58_113, if_neg hc68_115, if_neg hc78_117, if_neg hc88_119, if_pos hc98_121], N0, rfl⟩
                      · refine EndsQ.go (b := s₁.setTop (mkF m 105 #[.val (.int p1)] [])) (fun t k => ?_) ?_
                        · show Steps p.tables e below (s₁.setTop (mkF m 98 #[.val (.int p1)] [(.int (11 : Int32)), (.int p1)])) _
                          refine XS.icmpYes X0.here hx rfl (pc0 := 98) (pc' := 105) rfl (hb hby d3_98) rfl (feq hc98_121).2 (by decide) (by decide) ?_
                          show Steps p.tables e below (s₁.setTop (mkF m 105 #[.val (.int p1)] [])) _
                          exact k
                        obtain ⟨T123, X123, e123, st123⟩ := getS X0 hx hZ hown (host := "") (hw _ (List.mem_of_getElem? (i := 47) rfl)) Via.refl e0 S_STATUS (g := (mkF m 105 #[.val (.int p1)] [])) rfl (hb hby d3_105)
                        refine EndsQ.go st123 ?_
                        show EndsQ _ _ _ _ _ _ _ (T123.setTop (mkF m 108 #[.val (.int p1)] [(.ref a_STATUS)]))
                        refine EndsQ.retA X123 hx Bd.notSynchronized (w := (.ref a_STATUS)) Bd.returns rfl rfl rfl (hb hby d3_108) (by decide) (by decide) ?_
                        show Q3 Z p1 a_MEMBERS a_PULL a_STORE a_READ a_COUNT a_JOIN a_PING a_CATCH_UP a_HAND_OFF a_LOAD a_QUERY a_STATUS h0 n0 (some (.ref a_STATUS)) T123.heap _
                        rw [e123]
                        exact ⟨by unfold own_exp; rw [if_neg hc2_101, if_neg hc11_103, if_neg hc20_105, if_neg hc29_107, if_neg hc38_109, if_neg hc48_111, if_neg hc58_113, if_neg hc68_115, if_neg hc78_117, if_neg hc88_119, if_neg hc98_121], N0, rfl⟩
theorem ef_4 (m : MethodId) (x0 : Addr) : entryFrame m #[(.ref x0)] 1 = mkF m 0 #[.val (.ref x0)] [] := by first | (simp [entryFrame, mkF, argsToLocals, Value.category]; done) | rfl
def Q4 (Z : State) (a1 : Addr) (b2 : Int32) (h0 : Heap) (n0 : Nat) (v : Option Value) (h : Heap) (L : List Loc) : Prop := v = some (.int (nar .byte b2)) ∧ Fr n0 L ∧ h = h0
set_option maxRecDepth 65536 in
set_option maxHeartbeats 40000000 in
theorem rm4 (l : Launch) (Z : State) (a0 : Array Value) (hw : ∀ d ∈ tables_1, d.before a0 Z = true) (ws : List Jvm.Cond) (a1 : Addr) (b2 : Int32) (h0 : Heap) (n0 : Nat) (Z0 : n0 ≤ h0.size) (F1 : Fld Z h0 a1 "com/example/chainmesh/chainmesh/Op" "code" "B" (.int b2)) :
    MetFree l (⟨"com/example/chainmesh/chainmesh/Op", "code", "()B"⟩ : MethodName) (head1 (Jvm.Cond.code (⟨"com/example/chainmesh/chainmesh/Op", "code", "()B"⟩ : MethodName) prog_31_method_4_code 1 (some .byte) :: ws) ({ frames := 0, cells := 0, slots := 0, locals := 0 } : Room)) (fun a U => a = #[(.ref a1)] ∧ Z.Warmed39 U.vm ∧ U.heap = h0) (fun _ _ _ _ _ => True) (fun _ U o U' => ∃ v L, o = .returned v ∧ Q4 Z a1 b2 h0 n0 v U'.heap L ∧ FrameEnd U o U' L ({ frames := 0, cells := 0, slots := 0, locals := 0 } : Room).cells ({ frames := 0, cells := 0, slots := 0, locals := 0 } : Room).slots) := by
  refine MetFree.of_bodySF (plainFor_of_name pn_4) hisR ?_
  intro p e s m args below meth c s₁ Bd hml0 hP hK
  obtain ⟨rfl, hZ, hh⟩ := hP
  have hx := Bd.exec
  have hby := Bd.bytes
  have hml : c.maxLocals = 1 := hml0
  have hown : s.vm.findClass "com/example/chainmesh/chainmesh/Op" = some m.cls := findClass_of_methodNamed Bd.named
  have hnm := (name_of_methodNamed Bd.named Bd.method).1
  have X0 : Stand p l e ({ frames := 0, cells := 0, slots := 0, locals := 0 } : Room) s m #[(.ref a1)] below meth c s₁ [] 0 0 := Stand.of_body Bd
  have e0 : s₁.heap = h0 := by rw [← hh, Bd.state]; rfl
  have N0 := Fr.nil n0
  show EndsQ p.tables e below s (fun v h L => Q4 Z a1 b2 h0 n0 v h L) ({ frames := 0, cells := 0, slots := 0, locals := 0 } : Room).cells ({ frames := 0, cells := 0, slots := 0, locals := 0 } : Room).slots _
  refine EndsQ.go (b := s₁.setTop (mkF m 0 #[.val (.ref a1)] [])) (fun t k => castTop (ef_4 m a1) k) ?_
  refine EndsQ.go (b := s₁.setTop (mkF m 1 #[.val (.ref a1)] [(.ref a1)])) (fun t k => ?_) ?_
  · show Steps p.tables e below (s₁.setTop (mkF m 0 #[.val (.ref a1)] [])) _
    refine XS.aloadN X0.here hx rfl (hb hby d4_0) rfl rfl ?_
    show Steps p.tables e below (s₁.setTop (mkF m 1 #[.val (.ref a1)] [(.ref a1)])) _
    exact k
  obtain ⟨T101, X101, e101, st101⟩ := getF X0 hx hZ hown (host := "") (Or.inl (hw _ (List.mem_of_getElem? (i := 32) rfl))) Via.refl e0 F1 (g := (mkF m 1 #[.val (.ref a1)] [(.ref a1)])) rfl rfl (hb hby d4_1)
  refine EndsQ.go st101 ?_
  show EndsQ _ _ _ _ _ _ _ (T101.setTop (mkF m 4 #[.val (.ref a1)] [(.int b2)]))
  refine EndsQ.retN X101 hx Bd.notSynchronized (t := .byte) Bd.returns (by simp) (hb hby d4_4) (by decide) (by decide) ?_
  show Q4 Z a1 b2 h0 n0 (some (.int (nar .byte b2))) T101.heap _
  rw [e101]
  exact ⟨rfl, N0, rfl⟩
theorem ef_0 (m : MethodId) (x0 : Int32) : entryFrame m #[(.int x0)] maxLocals = mkF m 0 #[.val (.int x0), .unset, .unset, .unset] [] := by first | (simp [entryFrame, mkF, argsToLocals, Value.category, maxLocals]; done) | rfl
def Q0 (Z : State) (p1 : Int32) (a_VALUES : Addr) (kA : ClassId) (a_MEMBERS : Addr) (a_PULL : Addr) (a_STORE : Addr) (a_READ : Addr) (a_COUNT : Addr) (a_JOIN : Addr) (a_PING : Addr) (a_CATCH_UP : Addr) (a_HAND_OFF : Addr) (a_LOAD : Addr) (a_QUERY : Addr) (a_STATUS : Addr) (h0 : Heap) (n0 : Nat) (v : Option Value) (h : Heap) (L : List Loc) : Prop := v = some (.int 1) ∧ Fr n0 L
set_option maxRecDepth 65536 in
set_option maxHeartbeats 40000000 in
theorem rm0 (l : Launch) (Z : State) (a0 : Array Value) (hw : ∀ d ∈ tables_1, d.before a0 Z = true) (ws : List Jvm.Cond) (p1 : Int32) (a_VALUES : Addr) (kA : ClassId) (a_MEMBERS : Addr) (a_PULL : Addr) (a_STORE : Addr) (a_READ : Addr) (a_COUNT : Addr) (a_JOIN : Addr) (a_PING : Addr) (a_CATCH_UP : Addr) (a_HAND_OFF : Addr) (a_LOAD : Addr) (a_QUERY : Addr) (a_STATUS : Addr) (h0 : Heap) (n0 : Nat) (Z0 : n0 ≤ h0.size) (S_VALUES : Sta Z h0 "com/example/chainmesh/chainmesh/Op" "$VALUES" "[Lcom/example/chainmesh/chainmesh/Op;" (.ref a_VALUES)) (V_VALUES : Arv Z h0 a_VALUES kA (.object "com/example/chainmesh/chainmesh/Op") (12 : Int32) [(.ref a_MEMBERS), (.ref a_PULL), (.ref a_STORE), (.ref a_READ), (.ref a_COUNT), (.ref a_JOIN), (.ref a_PING), (.ref a_CATCH_UP), (.ref a_HAND_OFF), (.ref a_LOAD), (.ref a_QUERY), (.ref a_STATUS)] .null) (X_VALUES : Exa Z h0 a_VALUES "[Lcom/example/chainmesh/chainmesh/Op;") (F_MEMBERS_code : Fld Z h0 a_MEMBERS "com/example/chainmesh/chainmesh/Op" "code" "B" (.int (1 : Int32))) (F_PULL_code : Fld Z h0 a_PULL "com/example/chainmesh/chainmesh/Op" "code" "B" (.int (2 : Int32))) (F_STORE_code : Fld Z h0 a_STORE "com/example/chainmesh/chainmesh/Op" "code" "B" (.int (3 : Int32))) (F_READ_code : Fld Z h0 a_READ "com/example/chainmesh/chainmesh/Op" "code" "B" (.int (4 : Int32))) (F_COUNT_code : Fld Z h0 a_COUNT "com/example/chainmesh/chainmesh/Op" "code" "B" (.int (5 : Int32))) (F_JOIN_code : Fld Z h0 a_JOIN "com/example/chainmesh/chainmesh/Op" "code" "B" (.int (6 : Int32))) (F_PING_code : Fld Z h0 a_PING "com/example/chainmesh/chainmesh/Op" "code" "B" (.int (7 : Int32))) (F_CATCH_UP_code : Fld Z h0 a_CATCH_UP "com/example/chainmesh/chainmesh/Op" "code" "B" (.int (8 : Int32))) (F_HAND_OFF_code : Fld Z h0 a_HAND_OFF "com/example/chainmesh/chainmesh/Op" "code" "B" (.int (9 : Int32))) (F_LOAD_code : Fld Z h0 a_LOAD "com/example/chainmesh/chainmesh/Op" "code" "B" (.int (10 : Int32))) (F_QUERY_code : Fld Z h0 a_QUERY "com/example/chainmesh/chainmesh/Op" "code" "B" (.int (11 : Int32))) (F_STATUS_code : Fld Z h0 a_STATUS "com/example/chainmesh/chainmesh/Op" "code" "B" (.int (12 : Int32))) (S_MEMBERS : Sta Z h0 "com/example/chainmesh/chainmesh/Op" "MEMBERS" "Lcom/example/chainmesh/chainmesh/Op;" (.ref a_MEMBERS)) (S_PULL : Sta Z h0 "com/example/chainmesh/chainmesh/Op" "PULL" "Lcom/example/chainmesh/chainmesh/Op;" (.ref a_PULL)) (S_STORE : Sta Z h0 "com/example/chainmesh/chainmesh/Op" "STORE" "Lcom/example/chainmesh/chainmesh/Op;" (.ref a_STORE)) (S_READ : Sta Z h0 "com/example/chainmesh/chainmesh/Op" "READ" "Lcom/example/chainmesh/chainmesh/Op;" (.ref a_READ)) (S_COUNT : Sta Z h0 "com/example/chainmesh/chainmesh/Op" "COUNT" "Lcom/example/chainmesh/chainmesh/Op;" (.ref a_COUNT)) (S_JOIN : Sta Z h0 "com/example/chainmesh/chainmesh/Op" "JOIN" "Lcom/example/chainmesh/chainmesh/Op;" (.ref a_JOIN)) (S_PING : Sta Z h0 "com/example/chainmesh/chainmesh/Op" "PING" "Lcom/example/chainmesh/chainmesh/Op;" (.ref a_PING)) (S_CATCH_UP : Sta Z h0 "com/example/chainmesh/chainmesh/Op" "CATCH_UP" "Lcom/example/chainmesh/chainmesh/Op;" (.ref a_CATCH_UP)) (S_HAND_OFF : Sta Z h0 "com/example/chainmesh/chainmesh/Op" "HAND_OFF" "Lcom/example/chainmesh/chainmesh/Op;" (.ref a_HAND_OFF)) (S_LOAD : Sta Z h0 "com/example/chainmesh/chainmesh/Op" "LOAD" "Lcom/example/chainmesh/chainmesh/Op;" (.ref a_LOAD)) (S_QUERY : Sta Z h0 "com/example/chainmesh/chainmesh/Op" "QUERY" "Lcom/example/chainmesh/chainmesh/Op;" (.ref a_QUERY)) (S_STATUS : Sta Z h0 "com/example/chainmesh/chainmesh/Op" "STATUS" "Lcom/example/chainmesh/chainmesh/Op;" (.ref a_STATUS)) (E_MEMBERS : Exa Z h0 a_MEMBERS "com/example/chainmesh/chainmesh/Op") (E_PULL : Exa Z h0 a_PULL "com/example/chainmesh/chainmesh/Op") (E_STORE : Exa Z h0 a_STORE "com/example/chainmesh/chainmesh/Op") (E_READ : Exa Z h0 a_READ "com/example/chainmesh/chainmesh/Op") (E_COUNT : Exa Z h0 a_COUNT "com/example/chainmesh/chainmesh/Op") (E_JOIN : Exa Z h0 a_JOIN "com/example/chainmesh/chainmesh/Op") (E_PING : Exa Z h0 a_PING "com/example/chainmesh/chainmesh/Op") (E_CATCH_UP : Exa Z h0 a_CATCH_UP "com/example/chainmesh/chainmesh/Op") (E_HAND_OFF : Exa Z h0 a_HAND_OFF "com/example/chainmesh/chainmesh/Op") (E_LOAD : Exa Z h0 a_LOAD "com/example/chainmesh/chainmesh/Op") (E_QUERY : Exa Z h0 a_QUERY "com/example/chainmesh/chainmesh/Op") (E_STATUS : Exa Z h0 a_STATUS "com/example/chainmesh/chainmesh/Op") :
    MetFree l x (head1 (Jvm.Cond.code x code maxLocals ret :: ws) room_1) (fun a U => a = #[(.int p1)] ∧ Z.Warmed39 U.vm ∧ U.heap = h0) (fun _ _ _ _ _ => True) (fun _ U o U' => ∃ v L, o = .returned v ∧ Q0 Z p1 a_VALUES kA a_MEMBERS a_PULL a_STORE a_READ a_COUNT a_JOIN a_PING a_CATCH_UP a_HAND_OFF a_LOAD a_QUERY a_STATUS h0 n0 v U'.heap L ∧ FrameEnd U o U' L 16 128) := by
  refine MetFree.of_bodySF (plainFor_of_name pn_0) hisR ?_
  intro p e s m args below meth c s₁ Bd hml0 hP hK
  obtain ⟨rfl, hZ, hh⟩ := hP
  have hx := Bd.exec
  have hby := Bd.bytes
  have hml : c.maxLocals = 4 := hml0
  have hown : s.vm.findClass "com/example/chainmesh/chainmesh/OpOfPinLaw" = some m.cls := findClass_of_methodNamed Bd.named
  have hnm := (name_of_methodNamed Bd.named Bd.method).1
  have X0 : Stand p l e room_1 s m #[(.int p1)] below meth c s₁ [] 0 0 := Stand.of_body Bd
  have e0 : s₁.heap = h0 := by rw [← hh, Bd.state]; rfl
  have N0 := Fr.nil n0
  show EndsQ p.tables e below s (fun v h L => Q0 Z p1 a_VALUES kA a_MEMBERS a_PULL a_STORE a_READ a_COUNT a_JOIN a_PING a_CATCH_UP a_HAND_OFF a_LOAD a_QUERY a_STATUS h0 n0 v h L) 16 128 _
  refine EndsQ.go (b := s₁.setTop (mkF m 0 #[.val (.int p1), .unset, .unset, .unset] [])) (fun t k => castTop (ef_0 m p1) k) ?_
  refine EndsQ.go (b := s₁.setTop (mkF m 10 #[.val (.int p1), .val (.int ((1 : Int32) + ((p1 &&& (2147483647 : Int32)) % (12 : Int32)))), .unset, .unset] [])) (fun t k => ?_) ?_
  · show Steps p.tables e below (s₁.setTop (mkF m 0 #[.val (.int p1), .unset, .unset, .unset] [])) _
    refine XS.iconst X0.here hx rfl (hb hby at_0) ?_
    show Steps p.tables e below (s₁.setTop (mkF m 1 #[.val (.int p1), .unset, .unset, .unset] [(.int (1 : Int32))])) _
    refine XS.iloadN X0.here hx rfl (hb hby at_1) rfl ?_
    show Steps p.tables e below (s₁.setTop (mkF m 2 #[.val (.int p1), .unset, .unset, .unset] [(.int p1), (.int (1 : Int32))])) _
    refine X0.ldcInt hx hown (mvT hZ (hw _ (List.mem_of_getElem? (i := 0) rfl))) (g := (mkF m 2 #[.val (.int p1), .unset, .unset, .unset] [(.int p1), (.int (1 : Int32))])) rfl (hb hby at_2) _ ?_
    show Steps p.tables e below (s₁.setTop (mkF m 4 #[.val (.int p1), .unset, .unset, .unset] [(.int (2147483647 : Int32)), (.int p1), (.int (1 : Int32))])) _
    refine XS.iand X0.here hx rfl (hb hby at_4) rfl ?_
    show Steps p.tables e below (s₁.setTop (mkF m 5 #[.val (.int p1), .unset, .unset, .unset] [(.int (p1 &&& (2147483647 : Int32))), (.int (1 : Int32))])) _
    refine XS.bipush X0.here hx rfl (hb hby at_5) ?_
    show Steps p.tables e below (s₁.setTop (mkF m 7 #[.val (.int p1), .unset, .unset, .unset] [(.int (12 : Int32)), (.int (p1 &&& (2147483647 : Int32))), (.int (1 : Int32))])) _
    refine iremM X0 hx rfl (hb hby at_7) rfl (by decide) ?_
    show Steps p.tables e below (s₁.setTop (mkF m 8 #[.val (.int p1), .unset, .unset, .unset] [(.int ((p1 &&& (2147483647 : Int32)) % (12 : Int32))), (.int (1 : Int32))])) _
    refine XS.iadd X0.here hx rfl (hb hby at_8) rfl ?_
    show Steps p.tables e below (s₁.setTop (mkF m 9 #[.val (.int p1), .unset, .unset, .unset] [(.int ((1 : Int32) + ((p1 &&& (2147483647 : Int32)) % (12 : Int32))))])) _
    refine XS.istoreN X0.here hx rfl (hb hby at_9) rfl (l' := #[.val (.int p1), .val (.int ((1 : Int32) + ((p1 &&& (2147483647 : Int32)) % (12 : Int32)))), .unset, .unset]) rfl ?_
    show Steps p.tables e below (s₁.setTop (mkF m 10 #[.val (.int p1), .val (.int ((1 : Int32) + ((p1 &&& (2147483647 : Int32)) % (12 : Int32)))), .unset, .unset] [])) _
    exact k
  generalize hv_cc : ((1 : Int32) + ((p1 &&& (2147483647 : Int32)) % (12 : Int32))) = cc
  show EndsQ _ _ _ _ _ _ _ (s₁.setTop (mkF m 10 #[.val (.int p1), .val (.int cc), .unset, .unset] []))
  have hk12 := own_c12 p1
  rw [hv_cc] at hk12
  rcases hk12 with hk1 | hk2 | hk3 | hk4 | hk5 | hk6 | hk7 | hk8 | hk9 | hk10 | hk11 | hk12
  · subst hk1
    show EndsQ _ _ _ _ _ _ _ (s₁.setTop (mkF m 10 #[.val (.int p1), .val (.int (1 : Int32)), .unset, .unset] []))
    refine EndsQ.go (b := s₁.setTop (mkF m 12 #[.val (.int p1), .val (.int (1 : Int32)), .unset, .unset] [(.int ((1 : Int32).toInt8.toInt32))])) (fun t k => ?_) ?_
    · show Steps p.tables e below (s₁.setTop (mkF m 10 #[.val (.int p1), .val (.int (1 : Int32)), .unset, .unset] [])) _
      refine XS.iloadN X0.here hx rfl (hb hby at_10) rfl ?_
      show Steps p.tables e below (s₁.setTop (mkF m 11 #[.val (.int p1), .val (.int (1 : Int32)), .unset, .unset] [(.int (1 : Int32))])) _
      refine XS.i2b X0.here hx rfl (hb hby at_11) rfl ?_
      show Steps p.tables e below (s₁.setTop (mkF m 12 #[.val (.int p1), .val (.int (1 : Int32)), .unset, .unset] [(.int ((1 : Int32).toInt8.toInt32))])) _
      exact k
    rw [(by decide : ((1 : Int32).toInt8.toInt32) = (1 : Int32))]
    show EndsQ _ _ _ _ _ _ _ (s₁.setTop (mkF m 12 #[.val (.int p1), .val (.int (1 : Int32)), .unset, .unset] [(.int (1 : Int32))]))
    refine EndsQ.go (b := s₁.setTop (mkF m 14 #[.val (.int p1), .val (.int (1 : Int32)), .val (.int (1 : Int32)), .unset] [(.int (1 : Int32))])) (fun t k => ?_) ?_
    · show Steps p.tables e below (s₁.setTop (mkF m 12 #[.val (.int p1), .val (.int (1 : Int32)), .unset, .unset] [(.int (1 : Int32))])) _
      refine XS.istoreN X0.here hx rfl (hb hby at_12) rfl (l' := #[.val (.int p1), .val (.int (1 : Int32)), .val (.int (1 : Int32)), .unset]) rfl ?_
      show Steps p.tables e below (s₁.setTop (mkF m 13 #[.val (.int p1), .val (.int (1 : Int32)), .val (.int (1 : Int32)), .unset] [])) _
      refine XS.iloadN X0.here hx rfl (hb hby at_13) rfl ?_
      show Steps p.tables e below (s₁.setTop (mkF m 14 #[.val (.int p1), .val (.int (1 : Int32)), .val (.int (1 : Int32)), .unset] [(.int (1 : Int32))])) _
      exact k
    obtain ⟨_, _, ⟨T101, L101, kk101, nn101⟩, -, X101, ⟨Lc101, hQ101, l101, y101, z101⟩, st101⟩ := Jvm.LawKit.callS X0 hx (y := (⟨"com/example/chainmesh/chainmesh/Op", "of", "(B)Lcom/example/chainmesh/chainmesh/Op;"⟩ : MethodName)) hown (mvT hZ (hw _ (List.mem_of_getElem? (i := 1) rfl))) (mvT hZ (hw _ (List.mem_of_getElem? (i := 2) rfl))) (mvT hZ (hw _ (List.mem_of_getElem? (i := 3) rfl))) (mvT hZ (hw _ (List.mem_of_getElem? (i := 4) rfl))) (by decide) (backOf (W := 0) (rm1 l Z a0 hw [] (1 : Int32) a_VALUES kA a_MEMBERS a_PULL a_STORE a_READ a_COUNT a_JOIN a_PING a_CATCH_UP a_HAND_OFF a_LOAD a_QUERY a_STATUS h0 n0 Z0 S_VALUES V_VALUES X_VALUES F_MEMBERS_code F_PULL_code F_STORE_code F_READ_code F_COUNT_code F_JOIN_code F_PING_code F_CATCH_UP_code F_HAND_OFF_code F_LOAD_code F_QUERY_code F_STATUS_code (by decide)) hZ (hw _ (List.mem_of_getElem? (i := 4) rfl)) (hw _ (List.mem_of_getElem? (i := 3) rfl)) (by decide) (by decide)) (g := (mkF m 14 #[.val (.int p1), .val (.int (1 : Int32)), .val (.int (1 : Int32)), .unset] [(.int (1 : Int32))])) rfl (by rw [hml]; rfl) (argsL := [(.int (1 : Int32))]) (rest := []) (lenOf pd_1 rfl) rfl (by show 2 * 0 + _ ≤ _; exact Nat.le_of_eq rfl) (hb hby at_14) (fun _ _ => ⟨rfl, e0, (by decide : 0 + 1 ≤ _), (by decide : 0 + 12 ≤ _)⟩)
    dsimp only [Pt.U, Pt.locs, Pt.cells, Pt.slots] at X101 l101 y101 z101 st101 hQ101
    subst l101 y101 z101
    obtain ⟨rfl, Nq101, E101⟩ := hQ101
    have N101 := Fr.app N0 Nq101
    have f102 : Sta Z T101.heap "com/example/chainmesh/chainmesh/Op" "$VALUES" "[Lcom/example/chainmesh/chainmesh/Op;" (.ref a_VALUES) := S_VALUES.ext E101
    have f103 : Arv Z T101.heap a_VALUES kA (.object "com/example/chainmesh/chainmesh/Op") (12 : Int32) [(.ref a_MEMBERS), (.ref a_PULL), (.ref a_STORE), (.ref a_READ), (.ref a_COUNT), (.ref a_JOIN), (.ref a_PING), (.ref a_CATCH_UP), (.ref a_HAND_OFF), (.ref a_LOAD), (.ref a_QUERY), (.ref a_STATUS)] .null := V_VALUES.ext E101
    have f104 : Exa Z T101.heap a_VALUES "[Lcom/example/chainmesh/chainmesh/Op;" := X_VALUES.ext E101
    have f105 : Fld Z T101.heap a_MEMBERS "com/example/chainmesh/chainmesh/Op" "code" "B" (.int (1 : Int32)) := F_MEMBERS_code.ext E101
    have f106 : Fld Z T101.heap a_PULL "com/example/chainmesh/chainmesh/Op" "code" "B" (.int (2 : Int32)) := F_PULL_code.ext E101
    have f107 : Fld Z T101.heap a_STORE "com/example/chainmesh/chainmesh/Op" "code" "B" (.int (3 : Int32)) := F_STORE_code.ext E101
    have f108 : Fld Z T101.heap a_READ "com/example/chainmesh/chainmesh/Op" "code" "B" (.int (4 : Int32)) := F_READ_code.ext E101
    have f109 : Fld Z T101.heap a_COUNT "com/example/chainmesh/chainmesh/Op" "code" "B" (.int (5 : Int32)) := F_COUNT_code.ext E101
    have f110 : Fld Z T101.heap a_JOIN "com/example/chainmesh/chainmesh/Op" "code" "B" (.int (6 : Int32)) := F_JOIN_code.ext E101
    have f111 : Fld Z T101.heap a_PING "com/example/chainmesh/chainmesh/Op" "code" "B" (.int (7 : Int32)) := F_PING_code.ext E101
    have f112 : Fld Z T101.heap a_CATCH_UP "com/example/chainmesh/chainmesh/Op" "code" "B" (.int (8 : Int32)) := F_CATCH_UP_code.ext E101
    have f113 : Fld Z T101.heap a_HAND_OFF "com/example/chainmesh/chainmesh/Op" "code" "B" (.int (9 : Int32)) := F_HAND_OFF_code.ext E101
    have f114 : Fld Z T101.heap a_LOAD "com/example/chainmesh/chainmesh/Op" "code" "B" (.int (10 : Int32)) := F_LOAD_code.ext E101
    have f115 : Fld Z T101.heap a_QUERY "com/example/chainmesh/chainmesh/Op" "code" "B" (.int (11 : Int32)) := F_QUERY_code.ext E101
    have f116 : Fld Z T101.heap a_STATUS "com/example/chainmesh/chainmesh/Op" "code" "B" (.int (12 : Int32)) := F_STATUS_code.ext E101
    have f117 : Sta Z T101.heap "com/example/chainmesh/chainmesh/Op" "MEMBERS" "Lcom/example/chainmesh/chainmesh/Op;" (.ref a_MEMBERS) := S_MEMBERS.ext E101
    have f118 : Sta Z T101.heap "com/example/chainmesh/chainmesh/Op" "PULL" "Lcom/example/chainmesh/chainmesh/Op;" (.ref a_PULL) := S_PULL.ext E101
    have f119 : Sta Z T101.heap "com/example/chainmesh/chainmesh/Op" "STORE" "Lcom/example/chainmesh/chainmesh/Op;" (.ref a_STORE) := S_STORE.ext E101
    have f120 : Sta Z T101.heap "com/example/chainmesh/chainmesh/Op" "READ" "Lcom/example/chainmesh/chainmesh/Op;" (.ref a_READ) := S_READ.ext E101
    have f121 : Sta Z T101.heap "com/example/chainmesh/chainmesh/Op" "COUNT" "Lcom/example/chainmesh/chainmesh/Op;" (.ref a_COUNT) := S_COUNT.ext E101
    have f122 : Sta Z T101.heap "com/example/chainmesh/chainmesh/Op" "JOIN" "Lcom/example/chainmesh/chainmesh/Op;" (.ref a_JOIN) := S_JOIN.ext E101
    have f123 : Sta Z T101.heap "com/example/chainmesh/chainmesh/Op" "PING" "Lcom/example/chainmesh/chainmesh/Op;" (.ref a_PING) := S_PING.ext E101
    have f124 : Sta Z T101.heap "com/example/chainmesh/chainmesh/Op" "CATCH_UP" "Lcom/example/chainmesh/chainmesh/Op;" (.ref a_CATCH_UP) := S_CATCH_UP.ext E101
    have f125 : Sta Z T101.heap "com/example/chainmesh/chainmesh/Op" "HAND_OFF" "Lcom/example/chainmesh/chainmesh/Op;" (.ref a_HAND_OFF) := S_HAND_OFF.ext E101
    have f126 : Sta Z T101.heap "com/example/chainmesh/chainmesh/Op" "LOAD" "Lcom/example/chainmesh/chainmesh/Op;" (.ref a_LOAD) := S_LOAD.ext E101
    have f127 : Sta Z T101.heap "com/example/chainmesh/chainmesh/Op" "QUERY" "Lcom/example/chainmesh/chainmesh/Op;" (.ref a_QUERY) := S_QUERY.ext E101
    have f128 : Sta Z T101.heap "com/example/chainmesh/chainmesh/Op" "STATUS" "Lcom/example/chainmesh/chainmesh/Op;" (.ref a_STATUS) := S_STATUS.ext E101
    have f129 : Exa Z T101.heap a_MEMBERS "com/example/chainmesh/chainmesh/Op" := E_MEMBERS.ext E101
    have f130 : Exa Z T101.heap a_PULL "com/example/chainmesh/chainmesh/Op" := E_PULL.ext E101
    have f131 : Exa Z T101.heap a_STORE "com/example/chainmesh/chainmesh/Op" := E_STORE.ext E101
    have f132 : Exa Z T101.heap a_READ "com/example/chainmesh/chainmesh/Op" := E_READ.ext E101
    have f133 : Exa Z T101.heap a_COUNT "com/example/chainmesh/chainmesh/Op" := E_COUNT.ext E101
    have f134 : Exa Z T101.heap a_JOIN "com/example/chainmesh/chainmesh/Op" := E_JOIN.ext E101
    have f135 : Exa Z T101.heap a_PING "com/example/chainmesh/chainmesh/Op" := E_PING.ext E101
    have f136 : Exa Z T101.heap a_CATCH_UP "com/example/chainmesh/chainmesh/Op" := E_CATCH_UP.ext E101
    have f137 : Exa Z T101.heap a_HAND_OFF "com/example/chainmesh/chainmesh/Op" := E_HAND_OFF.ext E101
    have f138 : Exa Z T101.heap a_LOAD "com/example/chainmesh/chainmesh/Op" := E_LOAD.ext E101
    have f139 : Exa Z T101.heap a_QUERY "com/example/chainmesh/chainmesh/Op" := E_QUERY.ext E101
    have f140 : Exa Z T101.heap a_STATUS "com/example/chainmesh/chainmesh/Op" := E_STATUS.ext E101
    have f141 : n0 ≤ T101.heap.size := Nat.le_trans Z0 E101.1
    refine EndsQ.go st101 ?_
    show EndsQ _ _ _ _ _ _ _ (T101.setTop (mkF m 17 #[.val (.int p1), .val (.int (1 : Int32)), .val (.int (1 : Int32)), .unset] [(.ref (own_of (1 : Int32) a_MEMBERS a_PULL a_STORE a_READ a_COUNT a_JOIN a_PING a_CATCH_UP a_HAND_OFF a_LOAD a_QUERY a_STATUS))]))
    rw [(rfl : (own_of (1 : Int32) a_MEMBERS a_PULL a_STORE a_READ a_COUNT a_JOIN a_PING a_CATCH_UP a_HAND_OFF a_LOAD a_QUERY a_STATUS) = a_MEMBERS)]
    show EndsQ _ _ _ _ _ _ _ (T101.setTop (mkF m 17 #[.val (.int p1), .val (.int (1 : Int32)), .val (.int (1 : Int32)), .unset] [(.ref a_MEMBERS)]))
    refine EndsQ.go (b := T101.setTop (mkF m 20 #[.val (.int p1), .val (.int (1 : Int32)), .val (.int (1 : Int32)), .val (.ref a_MEMBERS)] [(.int (1 : Int32)), (.ref a_MEMBERS)])) (fun t k => ?_) ?_
    · show Steps p.tables e below (T101.setTop (mkF m 17 #[.val (.int p1), .val (.int (1 : Int32)), .val (.int (1 : Int32)), .unset] [(.ref a_MEMBERS)])) _
      refine XS.astoreN X101.here hx rfl (hb hby at_17) rfl rfl (l' := #[.val (.int p1), .val (.int (1 : Int32)), .val (.int (1 : Int32)), .val (.ref a_MEMBERS)]) rfl ?_
      show Steps p.tables e below (T101.setTop (mkF m 18 #[.val (.int p1), .val (.int (1 : Int32)), .val (.int (1 : Int32)), .val (.ref a_MEMBERS)] [])) _
      refine XS.aloadN X101.here hx rfl (hb hby at_18) rfl rfl ?_
      show Steps p.tables e below (T101.setTop (mkF m 19 #[.val (.int p1), .val (.int (1 : Int32)), .val (.int (1 : Int32)), .val (.ref a_MEMBERS)] [(.ref a_MEMBERS)])) _
      refine XS.iloadN X101.here hx rfl (hb hby at_19) rfl ?_
      show Steps p.tables e below (T101.setTop (mkF m 20 #[.val (.int p1), .val (.int (1 : Int32)), .val (.int (1 : Int32)), .val (.ref a_MEMBERS)] [(.int (1 : Int32)), (.ref a_MEMBERS)])) _
      exact k
    obtain ⟨_, _, ⟨T142, L142, kk142, nn142⟩, -, X142, ⟨Lc142, hQ142, l142, y142, z142⟩, st142⟩ := Jvm.LawKit.callS X101 hx (y := (⟨"com/example/chainmesh/chainmesh/OpOfPinLaw", "expected", "(I)Lcom/example/chainmesh/chainmesh/Op;"⟩ : MethodName)) hown (mvT hZ (hw _ (List.mem_of_getElem? (i := 34) rfl))) (mvT hZ (hw _ (List.mem_of_getElem? (i := 35) rfl))) (mvT hZ (hw _ (List.mem_of_getElem? (i := 36) rfl))) (mvT hZ (hw _ (List.mem_of_getElem? (i := 37) rfl))) (by decide) (backOf (W := 1) (rm3 l Z a0 hw [] (1 : Int32) a_MEMBERS a_PULL a_STORE a_READ a_COUNT a_JOIN a_PING a_CATCH_UP a_HAND_OFF a_LOAD a_QUERY a_STATUS T101.heap n0 f141 f117 f118 f119 f120 f121 f122 f123 f124 f125 f126 f127 f128) hZ (hw _ (List.mem_of_getElem? (i := 37) rfl)) (hw _ (List.mem_of_getElem? (i := 36) rfl)) (by decide) (by decide)) (g := (mkF m 20 #[.val (.int p1), .val (.int (1 : Int32)), .val (.int (1 : Int32)), .val (.ref a_MEMBERS)] [(.int (1 : Int32)), (.ref a_MEMBERS)])) rfl (by rw [hml]; rfl) (argsL := [(.int (1 : Int32))]) (rest := [(.ref a_MEMBERS)]) (lenOf pd_2 rfl) rfl (by show 2 * 0 + _ ≤ _; exact Nat.le_of_eq rfl) (hb hby at_20) (fun _ _ => ⟨rfl, rfl, (by decide : 1 + 0 ≤ _), (by decide : 12 + 0 ≤ _)⟩)
    dsimp only [Pt.U, Pt.locs, Pt.cells, Pt.slots] at X142 l142 y142 z142 st142 hQ142
    subst l142 y142 z142
    obtain ⟨rfl, Nq142, eq142⟩ := hQ142
    have N142 := Fr.app N101 Nq142
    refine EndsQ.go st142 ?_
    show EndsQ _ _ _ _ _ _ _ (T142.setTop (mkF m 23 #[.val (.int p1), .val (.int (1 : Int32)), .val (.int (1 : Int32)), .val (.ref a_MEMBERS)] [(.ref (own_exp (1 : Int32) a_MEMBERS a_PULL a_STORE a_READ a_COUNT a_JOIN a_PING a_CATCH_UP a_HAND_OFF a_LOAD a_QUERY a_STATUS)), (.ref a_MEMBERS)]))
    rw [(rfl : (own_exp (1 : Int32) a_MEMBERS a_PULL a_STORE a_READ a_COUNT a_JOIN a_PING a_CATCH_UP a_HAND_OFF a_LOAD a_QUERY a_STATUS) = a_MEMBERS)]
    show EndsQ _ _ _ _ _ _ _ (T142.setTop (mkF m 23 #[.val (.int p1), .val (.int (1 : Int32)), .val (.int (1 : Int32)), .val (.ref a_MEMBERS)] [(.ref a_MEMBERS), (.ref a_MEMBERS)]))
    refine EndsQ.go (b := T142.setTop (mkF m 27 #[.val (.int p1), .val (.int (1 : Int32)), .val (.int (1 : Int32)), .val (.ref a_MEMBERS)] [(.ref a_MEMBERS)])) (fun t k => ?_) ?_
    · show Steps p.tables e below (T142.setTop (mkF m 23 #[.val (.int p1), .val (.int (1 : Int32)), .val (.int (1 : Int32)), .val (.ref a_MEMBERS)] [(.ref a_MEMBERS), (.ref a_MEMBERS)])) _
      refine acmp X142 hx rfl (x := (.ref a_MEMBERS)) (y := (.ref a_MEMBERS)) rfl rfl (pc0 := 23) (pc' := 26) (same := true) rfl (hb hby at_23) rfl (by simp) (by decide) (by decide) ?_
      show Steps p.tables e below (T142.setTop (mkF m 26 #[.val (.int p1), .val (.int (1 : Int32)), .val (.int (1 : Int32)), .val (.ref a_MEMBERS)] [])) _
      refine XS.aloadN X142.here hx rfl (hb hby at_26) rfl rfl ?_
      show Steps p.tables e below (T142.setTop (mkF m 27 #[.val (.int p1), .val (.int (1 : Int32)), .val (.int (1 : Int32)), .val (.ref a_MEMBERS)] [(.ref a_MEMBERS)])) _
      exact k
    obtain ⟨cq143, kq143, qa143, qb143, qc143⟩ := isOf hZ eq142 f129
    obtain ⟨_, _, ⟨T143, L143, kk143, nn143⟩, -, X143, ⟨Lc143, hQ143, l143, y143, z143⟩, st143⟩ := X142.virtualBack hx (y := (⟨"com/example/chainmesh/chainmesh/Op", "code", "()B"⟩ : MethodName)) (z := (⟨"com/example/chainmesh/chainmesh/Op", "code", "()B"⟩ : MethodName)) hown (mvT hZ (hw _ (List.mem_of_getElem? (i := 39) rfl))) (mvT hZ (hw _ (List.mem_of_getElem? (i := 40) rfl))) (notFace_of_selects (args := #[]) (mvT hZ (hw _ (List.mem_of_getElem? (i := 42) rfl)))) (mvT hZ (hw _ (List.mem_of_getElem? (i := 42) rfl))) (mvT hZ (hw _ (List.mem_of_getElem? (i := 41) rfl))) (by decide) (backOf (W := 0) (rm4 l Z a0 hw [] a_MEMBERS (1 : Int32) T101.heap n0 f141 f105) hZ (hw _ (List.mem_of_getElem? (i := 43) rfl)) (hw _ (List.mem_of_getElem? (i := 3) rfl)) (by decide) (by decide)) qa143 qc143 (g := (mkF m 27 #[.val (.int p1), .val (.int (1 : Int32)), .val (.int (1 : Int32)), .val (.ref a_MEMBERS)] [(.ref a_MEMBERS)])) rfl (by rw [hml]; rfl) (Steps.refl _) (argsL := []) (rest := []) (lenOf pd_3 rfl) rfl (by show 2 * 0 + _ ≤ _; exact Nat.le_of_eq rfl) (hb hby at_27) (fun _ _ => ⟨rfl, eq142, (by decide : 1 + 0 ≤ _), (by decide : 12 + 0 ≤ _)⟩)
    dsimp only [Pt.U, Pt.locs, Pt.cells, Pt.slots] at X143 l143 y143 z143 st143 hQ143
    subst l143 y143 z143
    obtain ⟨rfl, Nq143, eq143⟩ := hQ143
    have N143 := Fr.app N142 Nq143
    refine EndsQ.go (fun t k => st143.trans k) ?_
    show EndsQ _ _ _ _ _ _ _ (T143.setTop (mkF m 30 #[.val (.int p1), .val (.int (1 : Int32)), .val (.int (1 : Int32)), .val (.ref a_MEMBERS)] [(.int (nar .byte (1 : Int32)))]))
    refine EndsQ.go (b := T143.setTop (mkF m 39 #[.val (.int p1), .val (.int (1 : Int32)), .val (.int (1 : Int32)), .val (.ref a_MEMBERS)] [(.int (1 : Int32))])) (fun t k => ?_) ?_
    · show Steps p.tables e below (T143.setTop (mkF m 30 #[.val (.int p1), .val (.int (1 : Int32)), .val (.int (1 : Int32)), .val (.ref a_MEMBERS)] [(.int (nar .byte (1 : Int32)))])) _
      refine XS.iloadN X143.here hx rfl (hb hby at_30) rfl ?_
      show Steps p.tables e below (T143.setTop (mkF m 31 #[.val (.int p1), .val (.int (1 : Int32)), .val (.int (1 : Int32)), .val (.ref a_MEMBERS)] [(.int (1 : Int32)), (.int (nar .byte (1 : Int32)))])) _
      refine XS.icmpNo X143.here hx rfl (hb hby at_31) rfl (teq (by decide)).2 ?_
      show Steps p.tables e below (T143.setTop (mkF m 34 #[.val (.int p1), .val (.int (1 : Int32)), .val (.int (1 : Int32)), .val (.ref a_MEMBERS)] [])) _
      refine XS.iconst X143.here hx rfl (hb hby at_34) ?_
      show Steps p.tables e below (T143.setTop (mkF m 35 #[.val (.int p1), .val (.int (1 : Int32)), .val (.int (1 : Int32)), .val (.ref a_MEMBERS)] [(.int (1 : Int32))])) _
      refine XS.goto X143.here hx rfl (pc0 := 35) (pc' := 39) rfl (hb hby at_35) (by decide) (by decide) ?_
      show Steps p.tables e below (T143.setTop (mkF m 39 #[.val (.int p1), .val (.int (1 : Int32)), .val (.int (1 : Int32)), .val (.ref a_MEMBERS)] [(.int (1 : Int32))])) _
      exact k
    refine EndsQ.retN X143 hx Bd.notSynchronized (t := .boolean) Bd.returns (by simp) (hb hby at_39) (by decide) (by decide) ?_
    show Q0 Z p1 a_VALUES kA a_MEMBERS a_PULL a_STORE a_READ a_COUNT a_JOIN a_PING a_CATCH_UP a_HAND_OFF a_LOAD a_QUERY a_STATUS h0 n0 (some (.int (nar .boolean (1 : Int32)))) T143.heap _
    rw [eq143]
    exact ⟨rfl, N143⟩
  · subst hk2
    show EndsQ _ _ _ _ _ _ _ (s₁.setTop (mkF m 10 #[.val (.int p1), .val (.int (2 : Int32)), .unset, .unset] []))
    refine EndsQ.go (b := s₁.setTop (mkF m 12 #[.val (.int p1), .val (.int (2 : Int32)), .unset, .unset] [(.int ((2 : Int32).toInt8.toInt32))])) (fun t k => ?_) ?_
    · show Steps p.tables e below (s₁.setTop (mkF m 10 #[.val (.int p1), .val (.int (2 : Int32)), .unset, .unset] [])) _
      refine XS.iloadN X0.here hx rfl (hb hby at_10) rfl ?_
      show Steps p.tables e below (s₁.setTop (mkF m 11 #[.val (.int p1), .val (.int (2 : Int32)), .unset, .unset] [(.int (2 : Int32))])) _
      refine XS.i2b X0.here hx rfl (hb hby at_11) rfl ?_
      show Steps p.tables e below (s₁.setTop (mkF m 12 #[.val (.int p1), .val (.int (2 : Int32)), .unset, .unset] [(.int ((2 : Int32).toInt8.toInt32))])) _
      exact k
    rw [(by decide : ((2 : Int32).toInt8.toInt32) = (2 : Int32))]
    show EndsQ _ _ _ _ _ _ _ (s₁.setTop (mkF m 12 #[.val (.int p1), .val (.int (2 : Int32)), .unset, .unset] [(.int (2 : Int32))]))
    refine EndsQ.go (b := s₁.setTop (mkF m 14 #[.val (.int p1), .val (.int (2 : Int32)), .val (.int (2 : Int32)), .unset] [(.int (2 : Int32))])) (fun t k => ?_) ?_
    · show Steps p.tables e below (s₁.setTop (mkF m 12 #[.val (.int p1), .val (.int (2 : Int32)), .unset, .unset] [(.int (2 : Int32))])) _
      refine XS.istoreN X0.here hx rfl (hb hby at_12) rfl (l' := #[.val (.int p1), .val (.int (2 : Int32)), .val (.int (2 : Int32)), .unset]) rfl ?_
      show Steps p.tables e below (s₁.setTop (mkF m 13 #[.val (.int p1), .val (.int (2 : Int32)), .val (.int (2 : Int32)), .unset] [])) _
      refine XS.iloadN X0.here hx rfl (hb hby at_13) rfl ?_
      show Steps p.tables e below (s₁.setTop (mkF m 14 #[.val (.int p1), .val (.int (2 : Int32)), .val (.int (2 : Int32)), .unset] [(.int (2 : Int32))])) _
      exact k
    obtain ⟨_, _, ⟨T144, L144, kk144, nn144⟩, -, X144, ⟨Lc144, hQ144, l144, y144, z144⟩, st144⟩ := Jvm.LawKit.callS X0 hx (y := (⟨"com/example/chainmesh/chainmesh/Op", "of", "(B)Lcom/example/chainmesh/chainmesh/Op;"⟩ : MethodName)) hown (mvT hZ (hw _ (List.mem_of_getElem? (i := 1) rfl))) (mvT hZ (hw _ (List.mem_of_getElem? (i := 2) rfl))) (mvT hZ (hw _ (List.mem_of_getElem? (i := 3) rfl))) (mvT hZ (hw _ (List.mem_of_getElem? (i := 4) rfl))) (by decide) (backOf (W := 0) (rm1 l Z a0 hw [] (2 : Int32) a_VALUES kA a_MEMBERS a_PULL a_STORE a_READ a_COUNT a_JOIN a_PING a_CATCH_UP a_HAND_OFF a_LOAD a_QUERY a_STATUS h0 n0 Z0 S_VALUES V_VALUES X_VALUES F_MEMBERS_code F_PULL_code F_STORE_code F_READ_code F_COUNT_code F_JOIN_code F_PING_code F_CATCH_UP_code F_HAND_OFF_code F_LOAD_code F_QUERY_code F_STATUS_code (by decide)) hZ (hw _ (List.mem_of_getElem? (i := 4) rfl)) (hw _ (List.mem_of_getElem? (i := 3) rfl)) (by decide) (by decide)) (g := (mkF m 14 #[.val (.int p1), .val (.int (2 : Int32)), .val (.int (2 : Int32)), .unset] [(.int (2 : Int32))])) rfl (by rw [hml]; rfl) (argsL := [(.int (2 : Int32))]) (rest := []) (lenOf pd_1 rfl) rfl (by show 2 * 0 + _ ≤ _; exact Nat.le_of_eq rfl) (hb hby at_14) (fun _ _ => ⟨rfl, e0, (by decide : 0 + 1 ≤ _), (by decide : 0 + 12 ≤ _)⟩)
    dsimp only [Pt.U, Pt.locs, Pt.cells, Pt.slots] at X144 l144 y144 z144 st144 hQ144
    subst l144 y144 z144
    obtain ⟨rfl, Nq144, E144⟩ := hQ144
    have N144 := Fr.app N0 Nq144
    have f145 : Sta Z T144.heap "com/example/chainmesh/chainmesh/Op" "$VALUES" "[Lcom/example/chainmesh/chainmesh/Op;" (.ref a_VALUES) := S_VALUES.ext E144
    have f146 : Arv Z T144.heap a_VALUES kA (.object "com/example/chainmesh/chainmesh/Op") (12 : Int32) [(.ref a_MEMBERS), (.ref a_PULL), (.ref a_STORE), (.ref a_READ), (.ref a_COUNT), (.ref a_JOIN), (.ref a_PING), (.ref a_CATCH_UP), (.ref a_HAND_OFF), (.ref a_LOAD), (.ref a_QUERY), (.ref a_STATUS)] .null := V_VALUES.ext E144
    have f147 : Exa Z T144.heap a_VALUES "[Lcom/example/chainmesh/chainmesh/Op;" := X_VALUES.ext E144
    have f148 : Fld Z T144.heap a_MEMBERS "com/example/chainmesh/chainmesh/Op" "code" "B" (.int (1 : Int32)) := F_MEMBERS_code.ext E144
    have f149 : Fld Z T144.heap a_PULL "com/example/chainmesh/chainmesh/Op" "code" "B" (.int (2 : Int32)) := F_PULL_code.ext E144
    have f150 : Fld Z T144.heap a_STORE "com/example/chainmesh/chainmesh/Op" "code" "B" (.int (3 : Int32)) := F_STORE_code.ext E144
    have f151 : Fld Z T144.heap a_READ "com/example/chainmesh/chainmesh/Op" "code" "B" (.int (4 : Int32)) := F_READ_code.ext E144
    have f152 : Fld Z T144.heap a_COUNT "com/example/chainmesh/chainmesh/Op" "code" "B" (.int (5 : Int32)) := F_COUNT_code.ext E144
    have f153 : Fld Z T144.heap a_JOIN "com/example/chainmesh/chainmesh/Op" "code" "B" (.int (6 : Int32)) := F_JOIN_code.ext E144
    have f154 : Fld Z T144.heap a_PING "com/example/chainmesh/chainmesh/Op" "code" "B" (.int (7 : Int32)) := F_PING_code.ext E144
    have f155 : Fld Z T144.heap a_CATCH_UP "com/example/chainmesh/chainmesh/Op" "code" "B" (.int (8 : Int32)) := F_CATCH_UP_code.ext E144
    have f156 : Fld Z T144.heap a_HAND_OFF "com/example/chainmesh/chainmesh/Op" "code" "B" (.int (9 : Int32)) := F_HAND_OFF_code.ext E144
    have f157 : Fld Z T144.heap a_LOAD "com/example/chainmesh/chainmesh/Op" "code" "B" (.int (10 : Int32)) := F_LOAD_code.ext E144
    have f158 : Fld Z T144.heap a_QUERY "com/example/chainmesh/chainmesh/Op" "code" "B" (.int (11 : Int32)) := F_QUERY_code.ext E144
    have f159 : Fld Z T144.heap a_STATUS "com/example/chainmesh/chainmesh/Op" "code" "B" (.int (12 : Int32)) := F_STATUS_code.ext E144
    have f160 : Sta Z T144.heap "com/example/chainmesh/chainmesh/Op" "MEMBERS" "Lcom/example/chainmesh/chainmesh/Op;" (.ref a_MEMBERS) := S_MEMBERS.ext E144
    have f161 : Sta Z T144.heap "com/example/chainmesh/chainmesh/Op" "PULL" "Lcom/example/chainmesh/chainmesh/Op;" (.ref a_PULL) := S_PULL.ext E144
    have f162 : Sta Z T144.heap "com/example/chainmesh/chainmesh/Op" "STORE" "Lcom/example/chainmesh/chainmesh/Op;" (.ref a_STORE) := S_STORE.ext E144
    have f163 : Sta Z T144.heap "com/example/chainmesh/chainmesh/Op" "READ" "Lcom/example/chainmesh/chainmesh/Op;" (.ref a_READ) := S_READ.ext E144
    have f164 : Sta Z T144.heap "com/example/chainmesh/chainmesh/Op" "COUNT" "Lcom/example/chainmesh/chainmesh/Op;" (.ref a_COUNT) := S_COUNT.ext E144
    have f165 : Sta Z T144.heap "com/example/chainmesh/chainmesh/Op" "JOIN" "Lcom/example/chainmesh/chainmesh/Op;" (.ref a_JOIN) := S_JOIN.ext E144
    have f166 : Sta Z T144.heap "com/example/chainmesh/chainmesh/Op" "PING" "Lcom/example/chainmesh/chainmesh/Op;" (.ref a_PING) := S_PING.ext E144
    have f167 : Sta Z T144.heap "com/example/chainmesh/chainmesh/Op" "CATCH_UP" "Lcom/example/chainmesh/chainmesh/Op;" (.ref a_CATCH_UP) := S_CATCH_UP.ext E144
    have f168 : Sta Z T144.heap "com/example/chainmesh/chainmesh/Op" "HAND_OFF" "Lcom/example/chainmesh/chainmesh/Op;" (.ref a_HAND_OFF) := S_HAND_OFF.ext E144
    have f169 : Sta Z T144.heap "com/example/chainmesh/chainmesh/Op" "LOAD" "Lcom/example/chainmesh/chainmesh/Op;" (.ref a_LOAD) := S_LOAD.ext E144
    have f170 : Sta Z T144.heap "com/example/chainmesh/chainmesh/Op" "QUERY" "Lcom/example/chainmesh/chainmesh/Op;" (.ref a_QUERY) := S_QUERY.ext E144
    have f171 : Sta Z T144.heap "com/example/chainmesh/chainmesh/Op" "STATUS" "Lcom/example/chainmesh/chainmesh/Op;" (.ref a_STATUS) := S_STATUS.ext E144
    have f172 : Exa Z T144.heap a_MEMBERS "com/example/chainmesh/chainmesh/Op" := E_MEMBERS.ext E144
    have f173 : Exa Z T144.heap a_PULL "com/example/chainmesh/chainmesh/Op" := E_PULL.ext E144
    have f174 : Exa Z T144.heap a_STORE "com/example/chainmesh/chainmesh/Op" := E_STORE.ext E144
    have f175 : Exa Z T144.heap a_READ "com/example/chainmesh/chainmesh/Op" := E_READ.ext E144
    have f176 : Exa Z T144.heap a_COUNT "com/example/chainmesh/chainmesh/Op" := E_COUNT.ext E144
    have f177 : Exa Z T144.heap a_JOIN "com/example/chainmesh/chainmesh/Op" := E_JOIN.ext E144
    have f178 : Exa Z T144.heap a_PING "com/example/chainmesh/chainmesh/Op" := E_PING.ext E144
    have f179 : Exa Z T144.heap a_CATCH_UP "com/example/chainmesh/chainmesh/Op" := E_CATCH_UP.ext E144
    have f180 : Exa Z T144.heap a_HAND_OFF "com/example/chainmesh/chainmesh/Op" := E_HAND_OFF.ext E144
    have f181 : Exa Z T144.heap a_LOAD "com/example/chainmesh/chainmesh/Op" := E_LOAD.ext E144
    have f182 : Exa Z T144.heap a_QUERY "com/example/chainmesh/chainmesh/Op" := E_QUERY.ext E144
    have f183 : Exa Z T144.heap a_STATUS "com/example/chainmesh/chainmesh/Op" := E_STATUS.ext E144
    have f184 : n0 ≤ T144.heap.size := Nat.le_trans Z0 E144.1
    refine EndsQ.go st144 ?_
    show EndsQ _ _ _ _ _ _ _ (T144.setTop (mkF m 17 #[.val (.int p1), .val (.int (2 : Int32)), .val (.int (2 : Int32)), .unset] [(.ref (own_of (2 : Int32) a_MEMBERS a_PULL a_STORE a_READ a_COUNT a_JOIN a_PING a_CATCH_UP a_HAND_OFF a_LOAD a_QUERY a_STATUS))]))
    rw [(rfl : (own_of (2 : Int32) a_MEMBERS a_PULL a_STORE a_READ a_COUNT a_JOIN a_PING a_CATCH_UP a_HAND_OFF a_LOAD a_QUERY a_STATUS) = a_PULL)]
    show EndsQ _ _ _ _ _ _ _ (T144.setTop (mkF m 17 #[.val (.int p1), .val (.int (2 : Int32)), .val (.int (2 : Int32)), .unset] [(.ref a_PULL)]))
    refine EndsQ.go (b := T144.setTop (mkF m 20 #[.val (.int p1), .val (.int (2 : Int32)), .val (.int (2 : Int32)), .val (.ref a_PULL)] [(.int (2 : Int32)), (.ref a_PULL)])) (fun t k => ?_) ?_
    · show Steps p.tables e below (T144.setTop (mkF m 17 #[.val (.int p1), .val (.int (2 : Int32)), .val (.int (2 : Int32)), .unset] [(.ref a_PULL)])) _
      refine XS.astoreN X144.here hx rfl (hb hby at_17) rfl rfl (l' := #[.val (.int p1), .val (.int (2 : Int32)), .val (.int (2 : Int32)), .val (.ref a_PULL)]) rfl ?_
      show Steps p.tables e below (T144.setTop (mkF m 18 #[.val (.int p1), .val (.int (2 : Int32)), .val (.int (2 : Int32)), .val (.ref a_PULL)] [])) _
      refine XS.aloadN X144.here hx rfl (hb hby at_18) rfl rfl ?_
      show Steps p.tables e below (T144.setTop (mkF m 19 #[.val (.int p1), .val (.int (2 : Int32)), .val (.int (2 : Int32)), .val (.ref a_PULL)] [(.ref a_PULL)])) _
      refine XS.iloadN X144.here hx rfl (hb hby at_19) rfl ?_
      show Steps p.tables e below (T144.setTop (mkF m 20 #[.val (.int p1), .val (.int (2 : Int32)), .val (.int (2 : Int32)), .val (.ref a_PULL)] [(.int (2 : Int32)), (.ref a_PULL)])) _
      exact k
    obtain ⟨_, _, ⟨T185, L185, kk185, nn185⟩, -, X185, ⟨Lc185, hQ185, l185, y185, z185⟩, st185⟩ := Jvm.LawKit.callS X144 hx (y := (⟨"com/example/chainmesh/chainmesh/OpOfPinLaw", "expected", "(I)Lcom/example/chainmesh/chainmesh/Op;"⟩ : MethodName)) hown (mvT hZ (hw _ (List.mem_of_getElem? (i := 34) rfl))) (mvT hZ (hw _ (List.mem_of_getElem? (i := 35) rfl))) (mvT hZ (hw _ (List.mem_of_getElem? (i := 36) rfl))) (mvT hZ (hw _ (List.mem_of_getElem? (i := 37) rfl))) (by decide) (backOf (W := 1) (rm3 l Z a0 hw [] (2 : Int32) a_MEMBERS a_PULL a_STORE a_READ a_COUNT a_JOIN a_PING a_CATCH_UP a_HAND_OFF a_LOAD a_QUERY a_STATUS T144.heap n0 f184 f160 f161 f162 f163 f164 f165 f166 f167 f168 f169 f170 f171) hZ (hw _ (List.mem_of_getElem? (i := 37) rfl)) (hw _ (List.mem_of_getElem? (i := 36) rfl)) (by decide) (by decide)) (g := (mkF m 20 #[.val (.int p1), .val (.int (2 : Int32)), .val (.int (2 : Int32)), .val (.ref a_PULL)] [(.int (2 : Int32)), (.ref a_PULL)])) rfl (by rw [hml]; rfl) (argsL := [(.int (2 : Int32))]) (rest := [(.ref a_PULL)]) (lenOf pd_2 rfl) rfl (by show 2 * 0 + _ ≤ _; exact Nat.le_of_eq rfl) (hb hby at_20) (fun _ _ => ⟨rfl, rfl, (by decide : 1 + 0 ≤ _), (by decide : 12 + 0 ≤ _)⟩)
    dsimp only [Pt.U, Pt.locs, Pt.cells, Pt.slots] at X185 l185 y185 z185 st185 hQ185
    subst l185 y185 z185
    obtain ⟨rfl, Nq185, eq185⟩ := hQ185
    have N185 := Fr.app N144 Nq185
    refine EndsQ.go st185 ?_
    show EndsQ _ _ _ _ _ _ _ (T185.setTop (mkF m 23 #[.val (.int p1), .val (.int (2 : Int32)), .val (.int (2 : Int32)), .val (.ref a_PULL)] [(.ref (own_exp (2 : Int32) a_MEMBERS a_PULL a_STORE a_READ a_COUNT a_JOIN a_PING a_CATCH_UP a_HAND_OFF a_LOAD a_QUERY a_STATUS)), (.ref a_PULL)]))
    rw [(rfl : (own_exp (2 : Int32) a_MEMBERS a_PULL a_STORE a_READ a_COUNT a_JOIN a_PING a_CATCH_UP a_HAND_OFF a_LOAD a_QUERY a_STATUS) = a_PULL)]
    show EndsQ _ _ _ _ _ _ _ (T185.setTop (mkF m 23 #[.val (.int p1), .val (.int (2 : Int32)), .val (.int (2 : Int32)), .val (.ref a_PULL)] [(.ref a_PULL), (.ref a_PULL)]))
    refine EndsQ.go (b := T185.setTop (mkF m 27 #[.val (.int p1), .val (.int (2 : Int32)), .val (.int (2 : Int32)), .val (.ref a_PULL)] [(.ref a_PULL)])) (fun t k => ?_) ?_
    · show Steps p.tables e below (T185.setTop (mkF m 23 #[.val (.int p1), .val (.int (2 : Int32)), .val (.int (2 : Int32)), .val (.ref a_PULL)] [(.ref a_PULL), (.ref a_PULL)])) _
      refine acmp X185 hx rfl (x := (.ref a_PULL)) (y := (.ref a_PULL)) rfl rfl (pc0 := 23) (pc' := 26) (same := true) rfl (hb hby at_23) rfl (by simp) (by decide) (by decide) ?_
      show Steps p.tables e below (T185.setTop (mkF m 26 #[.val (.int p1), .val (.int (2 : Int32)), .val (.int (2 : Int32)), .val (.ref a_PULL)] [])) _
      refine XS.aloadN X185.here hx rfl (hb hby at_26) rfl rfl ?_
      show Steps p.tables e below (T185.setTop (mkF m 27 #[.val (.int p1), .val (.int (2 : Int32)), .val (.int (2 : Int32)), .val (.ref a_PULL)] [(.ref a_PULL)])) _
      exact k
    obtain ⟨cq186, kq186, qa186, qb186, qc186⟩ := isOf hZ eq185 f173
    obtain ⟨_, _, ⟨T186, L186, kk186, nn186⟩, -, X186, ⟨Lc186, hQ186, l186, y186, z186⟩, st186⟩ := X185.virtualBack hx (y := (⟨"com/example/chainmesh/chainmesh/Op", "code", "()B"⟩ : MethodName)) (z := (⟨"com/example/chainmesh/chainmesh/Op", "code", "()B"⟩ : MethodName)) hown (mvT hZ (hw _ (List.mem_of_getElem? (i := 39) rfl))) (mvT hZ (hw _ (List.mem_of_getElem? (i := 40) rfl))) (notFace_of_selects (args := #[]) (mvT hZ (hw _ (List.mem_of_getElem? (i := 42) rfl)))) (mvT hZ (hw _ (List.mem_of_getElem? (i := 42) rfl))) (mvT hZ (hw _ (List.mem_of_getElem? (i := 41) rfl))) (by decide) (backOf (W := 0) (rm4 l Z a0 hw [] a_PULL (2 : Int32) T144.heap n0 f184 f149) hZ (hw _ (List.mem_of_getElem? (i := 43) rfl)) (hw _ (List.mem_of_getElem? (i := 3) rfl)) (by decide) (by decide)) qa186 qc186 (g := (mkF m 27 #[.val (.int p1), .val (.int (2 : Int32)), .val (.int (2 : Int32)), .val (.ref a_PULL)] [(.ref a_PULL)])) rfl (by rw [hml]; rfl) (Steps.refl _) (argsL := []) (rest := []) (lenOf pd_3 rfl) rfl (by show 2 * 0 + _ ≤ _; exact Nat.le_of_eq rfl) (hb hby at_27) (fun _ _ => ⟨rfl, eq185, (by decide : 1 + 0 ≤ _), (by decide : 12 + 0 ≤ _)⟩)
    dsimp only [Pt.U, Pt.locs, Pt.cells, Pt.slots] at X186 l186 y186 z186 st186 hQ186
    subst l186 y186 z186
    obtain ⟨rfl, Nq186, eq186⟩ := hQ186
    have N186 := Fr.app N185 Nq186
    refine EndsQ.go (fun t k => st186.trans k) ?_
    show EndsQ _ _ _ _ _ _ _ (T186.setTop (mkF m 30 #[.val (.int p1), .val (.int (2 : Int32)), .val (.int (2 : Int32)), .val (.ref a_PULL)] [(.int (nar .byte (2 : Int32)))]))
    refine EndsQ.go (b := T186.setTop (mkF m 39 #[.val (.int p1), .val (.int (2 : Int32)), .val (.int (2 : Int32)), .val (.ref a_PULL)] [(.int (1 : Int32))])) (fun t k => ?_) ?_
    · show Steps p.tables e below (T186.setTop (mkF m 30 #[.val (.int p1), .val (.int (2 : Int32)), .val (.int (2 : Int32)), .val (.ref a_PULL)] [(.int (nar .byte (2 : Int32)))])) _
      refine XS.iloadN X186.here hx rfl (hb hby at_30) rfl ?_
      show Steps p.tables e below (T186.setTop (mkF m 31 #[.val (.int p1), .val (.int (2 : Int32)), .val (.int (2 : Int32)), .val (.ref a_PULL)] [(.int (2 : Int32)), (.int (nar .byte (2 : Int32)))])) _
      refine XS.icmpNo X186.here hx rfl (hb hby at_31) rfl (teq (by decide)).2 ?_
      show Steps p.tables e below (T186.setTop (mkF m 34 #[.val (.int p1), .val (.int (2 : Int32)), .val (.int (2 : Int32)), .val (.ref a_PULL)] [])) _
      refine XS.iconst X186.here hx rfl (hb hby at_34) ?_
      show Steps p.tables e below (T186.setTop (mkF m 35 #[.val (.int p1), .val (.int (2 : Int32)), .val (.int (2 : Int32)), .val (.ref a_PULL)] [(.int (1 : Int32))])) _
      refine XS.goto X186.here hx rfl (pc0 := 35) (pc' := 39) rfl (hb hby at_35) (by decide) (by decide) ?_
      show Steps p.tables e below (T186.setTop (mkF m 39 #[.val (.int p1), .val (.int (2 : Int32)), .val (.int (2 : Int32)), .val (.ref a_PULL)] [(.int (1 : Int32))])) _
      exact k
    refine EndsQ.retN X186 hx Bd.notSynchronized (t := .boolean) Bd.returns (by simp) (hb hby at_39) (by decide) (by decide) ?_
    show Q0 Z p1 a_VALUES kA a_MEMBERS a_PULL a_STORE a_READ a_COUNT a_JOIN a_PING a_CATCH_UP a_HAND_OFF a_LOAD a_QUERY a_STATUS h0 n0 (some (.int (nar .boolean (1 : Int32)))) T186.heap _
    rw [eq186]
    exact ⟨rfl, N186⟩
  · subst hk3
    show EndsQ _ _ _ _ _ _ _ (s₁.setTop (mkF m 10 #[.val (.int p1), .val (.int (3 : Int32)), .unset, .unset] []))
    refine EndsQ.go (b := s₁.setTop (mkF m 12 #[.val (.int p1), .val (.int (3 : Int32)), .unset, .unset] [(.int ((3 : Int32).toInt8.toInt32))])) (fun t k => ?_) ?_
    · show Steps p.tables e below (s₁.setTop (mkF m 10 #[.val (.int p1), .val (.int (3 : Int32)), .unset, .unset] [])) _
      refine XS.iloadN X0.here hx rfl (hb hby at_10) rfl ?_
      show Steps p.tables e below (s₁.setTop (mkF m 11 #[.val (.int p1), .val (.int (3 : Int32)), .unset, .unset] [(.int (3 : Int32))])) _
      refine XS.i2b X0.here hx rfl (hb hby at_11) rfl ?_
      show Steps p.tables e below (s₁.setTop (mkF m 12 #[.val (.int p1), .val (.int (3 : Int32)), .unset, .unset] [(.int ((3 : Int32).toInt8.toInt32))])) _
      exact k
    rw [(by decide : ((3 : Int32).toInt8.toInt32) = (3 : Int32))]
    show EndsQ _ _ _ _ _ _ _ (s₁.setTop (mkF m 12 #[.val (.int p1), .val (.int (3 : Int32)), .unset, .unset] [(.int (3 : Int32))]))
    refine EndsQ.go (b := s₁.setTop (mkF m 14 #[.val (.int p1), .val (.int (3 : Int32)), .val (.int (3 : Int32)), .unset] [(.int (3 : Int32))])) (fun t k => ?_) ?_
    · show Steps p.tables e below (s₁.setTop (mkF m 12 #[.val (.int p1), .val (.int (3 : Int32)), .unset, .unset] [(.int (3 : Int32))])) _
      refine XS.istoreN X0.here hx rfl (hb hby at_12) rfl (l' := #[.val (.int p1), .val (.int (3 : Int32)), .val (.int (3 : Int32)), .unset]) rfl ?_
      show Steps p.tables e below (s₁.setTop (mkF m 13 #[.val (.int p1), .val (.int (3 : Int32)), .val (.int (3 : Int32)), .unset] [])) _
      refine XS.iloadN X0.here hx rfl (hb hby at_13) rfl ?_
      show Steps p.tables e below (s₁.setTop (mkF m 14 #[.val (.int p1), .val (.int (3 : Int32)), .val (.int (3 : Int32)), .unset] [(.int (3 : Int32))])) _
      exact k
    obtain ⟨_, _, ⟨T187, L187, kk187, nn187⟩, -, X187, ⟨Lc187, hQ187, l187, y187, z187⟩, st187⟩ := Jvm.LawKit.callS X0 hx (y := (⟨"com/example/chainmesh/chainmesh/Op", "of", "(B)Lcom/example/chainmesh/chainmesh/Op;"⟩ : MethodName)) hown (mvT hZ (hw _ (List.mem_of_getElem? (i := 1) rfl))) (mvT hZ (hw _ (List.mem_of_getElem? (i := 2) rfl))) (mvT hZ (hw _ (List.mem_of_getElem? (i := 3) rfl))) (mvT hZ (hw _ (List.mem_of_getElem? (i := 4) rfl))) (by decide) (backOf (W := 0) (rm1 l Z a0 hw [] (3 : Int32) a_VALUES kA a_MEMBERS a_PULL a_STORE a_READ a_COUNT a_JOIN a_PING a_CATCH_UP a_HAND_OFF a_LOAD a_QUERY a_STATUS h0 n0 Z0 S_VALUES V_VALUES X_VALUES F_MEMBERS_code F_PULL_code F_STORE_code F_READ_code F_COUNT_code F_JOIN_code F_PING_code F_CATCH_UP_code F_HAND_OFF_code F_LOAD_code F_QUERY_code F_STATUS_code (by decide)) hZ (hw _ (List.mem_of_getElem? (i := 4) rfl)) (hw _ (List.mem_of_getElem? (i := 3) rfl)) (by decide) (by decide)) (g := (mkF m 14 #[.val (.int p1), .val (.int (3 : Int32)), .val (.int (3 : Int32)), .unset] [(.int (3 : Int32))])) rfl (by rw [hml]; rfl) (argsL := [(.int (3 : Int32))]) (rest := []) (lenOf pd_1 rfl) rfl (by show 2 * 0 + _ ≤ _; exact Nat.le_of_eq rfl) (hb hby at_14) (fun _ _ => ⟨rfl, e0, (by decide : 0 + 1 ≤ _), (by decide : 0 + 12 ≤ _)⟩)
    dsimp only [Pt.U, Pt.locs, Pt.cells, Pt.slots] at X187 l187 y187 z187 st187 hQ187
    subst l187 y187 z187
    obtain ⟨rfl, Nq187, E187⟩ := hQ187
    have N187 := Fr.app N0 Nq187
    have f188 : Sta Z T187.heap "com/example/chainmesh/chainmesh/Op" "$VALUES" "[Lcom/example/chainmesh/chainmesh/Op;" (.ref a_VALUES) := S_VALUES.ext E187
    have f189 : Arv Z T187.heap a_VALUES kA (.object "com/example/chainmesh/chainmesh/Op") (12 : Int32) [(.ref a_MEMBERS), (.ref a_PULL), (.ref a_STORE), (.ref a_READ), (.ref a_COUNT), (.ref a_JOIN), (.ref a_PING), (.ref a_CATCH_UP), (.ref a_HAND_OFF), (.ref a_LOAD), (.ref a_QUERY), (.ref a_STATUS)] .null := V_VALUES.ext E187
    have f190 : Exa Z T187.heap a_VALUES "[Lcom/example/chainmesh/chainmesh/Op;" := X_VALUES.ext E187
    have f191 : Fld Z T187.heap a_MEMBERS "com/example/chainmesh/chainmesh/Op" "code" "B" (.int (1 : Int32)) := F_MEMBERS_code.ext E187
    have f192 : Fld Z T187.heap a_PULL "com/example/chainmesh/chainmesh/Op" "code" "B" (.int (2 : Int32)) := F_PULL_code.ext E187
    have f193 : Fld Z T187.heap a_STORE "com/example/chainmesh/chainmesh/Op" "code" "B" (.int (3 : Int32)) := F_STORE_code.ext E187
    have f194 : Fld Z T187.heap a_READ "com/example/chainmesh/chainmesh/Op" "code" "B" (.int (4 : Int32)) := F_READ_code.ext E187
    have f195 : Fld Z T187.heap a_COUNT "com/example/chainmesh/chainmesh/Op" "code" "B" (.int (5 : Int32)) := F_COUNT_code.ext E187
    have f196 : Fld Z T187.heap a_JOIN "com/example/chainmesh/chainmesh/Op" "code" "B" (.int (6 : Int32)) := F_JOIN_code.ext E187
    have f197 : Fld Z T187.heap a_PING "com/example/chainmesh/chainmesh/Op" "code" "B" (.int (7 : Int32)) := F_PING_code.ext E187
    have f198 : Fld Z T187.heap a_CATCH_UP "com/example/chainmesh/chainmesh/Op" "code" "B" (.int (8 : Int32)) := F_CATCH_UP_code.ext E187
    have f199 : Fld Z T187.heap a_HAND_OFF "com/example/chainmesh/chainmesh/Op" "code" "B" (.int (9 : Int32)) := F_HAND_OFF_code.ext E187
    have f200 : Fld Z T187.heap a_LOAD "com/example/chainmesh/chainmesh/Op" "code" "B" (.int (10 : Int32)) := F_LOAD_code.ext E187
    have f201 : Fld Z T187.heap a_QUERY "com/example/chainmesh/chainmesh/Op" "code" "B" (.int (11 : Int32)) := F_QUERY_code.ext E187
    have f202 : Fld Z T187.heap a_STATUS "com/example/chainmesh/chainmesh/Op" "code" "B" (.int (12 : Int32)) := F_STATUS_code.ext E187
    have f203 : Sta Z T187.heap "com/example/chainmesh/chainmesh/Op" "MEMBERS" "Lcom/example/chainmesh/chainmesh/Op;" (.ref a_MEMBERS) := S_MEMBERS.ext E187
    have f204 : Sta Z T187.heap "com/example/chainmesh/chainmesh/Op" "PULL" "Lcom/example/chainmesh/chainmesh/Op;" (.ref a_PULL) := S_PULL.ext E187
    have f205 : Sta Z T187.heap "com/example/chainmesh/chainmesh/Op" "STORE" "Lcom/example/chainmesh/chainmesh/Op;" (.ref a_STORE) := S_STORE.ext E187
    have f206 : Sta Z T187.heap "com/example/chainmesh/chainmesh/Op" "READ" "Lcom/example/chainmesh/chainmesh/Op;" (.ref a_READ) := S_READ.ext E187
    have f207 : Sta Z T187.heap "com/example/chainmesh/chainmesh/Op" "COUNT" "Lcom/example/chainmesh/chainmesh/Op;" (.ref a_COUNT) := S_COUNT.ext E187
    have f208 : Sta Z T187.heap "com/example/chainmesh/chainmesh/Op" "JOIN" "Lcom/example/chainmesh/chainmesh/Op;" (.ref a_JOIN) := S_JOIN.ext E187
    have f209 : Sta Z T187.heap "com/example/chainmesh/chainmesh/Op" "PING" "Lcom/example/chainmesh/chainmesh/Op;" (.ref a_PING) := S_PING.ext E187
    have f210 : Sta Z T187.heap "com/example/chainmesh/chainmesh/Op" "CATCH_UP" "Lcom/example/chainmesh/chainmesh/Op;" (.ref a_CATCH_UP) := S_CATCH_UP.ext E187
    have f211 : Sta Z T187.heap "com/example/chainmesh/chainmesh/Op" "HAND_OFF" "Lcom/example/chainmesh/chainmesh/Op;" (.ref a_HAND_OFF) := S_HAND_OFF.ext E187
    have f212 : Sta Z T187.heap "com/example/chainmesh/chainmesh/Op" "LOAD" "Lcom/example/chainmesh/chainmesh/Op;" (.ref a_LOAD) := S_LOAD.ext E187
    have f213 : Sta Z T187.heap "com/example/chainmesh/chainmesh/Op" "QUERY" "Lcom/example/chainmesh/chainmesh/Op;" (.ref a_QUERY) := S_QUERY.ext E187
    have f214 : Sta Z T187.heap "com/example/chainmesh/chainmesh/Op" "STATUS" "Lcom/example/chainmesh/chainmesh/Op;" (.ref a_STATUS) := S_STATUS.ext E187
    have f215 : Exa Z T187.heap a_MEMBERS "com/example/chainmesh/chainmesh/Op" := E_MEMBERS.ext E187
    have f216 : Exa Z T187.heap a_PULL "com/example/chainmesh/chainmesh/Op" := E_PULL.ext E187
    have f217 : Exa Z T187.heap a_STORE "com/example/chainmesh/chainmesh/Op" := E_STORE.ext E187
    have f218 : Exa Z T187.heap a_READ "com/example/chainmesh/chainmesh/Op" := E_READ.ext E187
    have f219 : Exa Z T187.heap a_COUNT "com/example/chainmesh/chainmesh/Op" := E_COUNT.ext E187
    have f220 : Exa Z T187.heap a_JOIN "com/example/chainmesh/chainmesh/Op" := E_JOIN.ext E187
    have f221 : Exa Z T187.heap a_PING "com/example/chainmesh/chainmesh/Op" := E_PING.ext E187
    have f222 : Exa Z T187.heap a_CATCH_UP "com/example/chainmesh/chainmesh/Op" := E_CATCH_UP.ext E187
    have f223 : Exa Z T187.heap a_HAND_OFF "com/example/chainmesh/chainmesh/Op" := E_HAND_OFF.ext E187
    have f224 : Exa Z T187.heap a_LOAD "com/example/chainmesh/chainmesh/Op" := E_LOAD.ext E187
    have f225 : Exa Z T187.heap a_QUERY "com/example/chainmesh/chainmesh/Op" := E_QUERY.ext E187
    have f226 : Exa Z T187.heap a_STATUS "com/example/chainmesh/chainmesh/Op" := E_STATUS.ext E187
    have f227 : n0 ≤ T187.heap.size := Nat.le_trans Z0 E187.1
    refine EndsQ.go st187 ?_
    show EndsQ _ _ _ _ _ _ _ (T187.setTop (mkF m 17 #[.val (.int p1), .val (.int (3 : Int32)), .val (.int (3 : Int32)), .unset] [(.ref (own_of (3 : Int32) a_MEMBERS a_PULL a_STORE a_READ a_COUNT a_JOIN a_PING a_CATCH_UP a_HAND_OFF a_LOAD a_QUERY a_STATUS))]))
    rw [(rfl : (own_of (3 : Int32) a_MEMBERS a_PULL a_STORE a_READ a_COUNT a_JOIN a_PING a_CATCH_UP a_HAND_OFF a_LOAD a_QUERY a_STATUS) = a_STORE)]
    show EndsQ _ _ _ _ _ _ _ (T187.setTop (mkF m 17 #[.val (.int p1), .val (.int (3 : Int32)), .val (.int (3 : Int32)), .unset] [(.ref a_STORE)]))
    refine EndsQ.go (b := T187.setTop (mkF m 20 #[.val (.int p1), .val (.int (3 : Int32)), .val (.int (3 : Int32)), .val (.ref a_STORE)] [(.int (3 : Int32)), (.ref a_STORE)])) (fun t k => ?_) ?_
    · show Steps p.tables e below (T187.setTop (mkF m 17 #[.val (.int p1), .val (.int (3 : Int32)), .val (.int (3 : Int32)), .unset] [(.ref a_STORE)])) _
      refine XS.astoreN X187.here hx rfl (hb hby at_17) rfl rfl (l' := #[.val (.int p1), .val (.int (3 : Int32)), .val (.int (3 : Int32)), .val (.ref a_STORE)]) rfl ?_
      show Steps p.tables e below (T187.setTop (mkF m 18 #[.val (.int p1), .val (.int (3 : Int32)), .val (.int (3 : Int32)), .val (.ref a_STORE)] [])) _
      refine XS.aloadN X187.here hx rfl (hb hby at_18) rfl rfl ?_
      show Steps p.tables e below (T187.setTop (mkF m 19 #[.val (.int p1), .val (.int (3 : Int32)), .val (.int (3 : Int32)), .val (.ref a_STORE)] [(.ref a_STORE)])) _
      refine XS.iloadN X187.here hx rfl (hb hby at_19) rfl ?_
      show Steps p.tables e below (T187.setTop (mkF m 20 #[.val (.int p1), .val (.int (3 : Int32)), .val (.int (3 : Int32)), .val (.ref a_STORE)] [(.int (3 : Int32)), (.ref a_STORE)])) _
      exact k
    obtain ⟨_, _, ⟨T228, L228, kk228, nn228⟩, -, X228, ⟨Lc228, hQ228, l228, y228, z228⟩, st228⟩ := Jvm.LawKit.callS X187 hx (y := (⟨"com/example/chainmesh/chainmesh/OpOfPinLaw", "expected", "(I)Lcom/example/chainmesh/chainmesh/Op;"⟩ : MethodName)) hown (mvT hZ (hw _ (List.mem_of_getElem? (i := 34) rfl))) (mvT hZ (hw _ (List.mem_of_getElem? (i := 35) rfl))) (mvT hZ (hw _ (List.mem_of_getElem? (i := 36) rfl))) (mvT hZ (hw _ (List.mem_of_getElem? (i := 37) rfl))) (by decide) (backOf (W := 1) (rm3 l Z a0 hw [] (3 : Int32) a_MEMBERS a_PULL a_STORE a_READ a_COUNT a_JOIN a_PING a_CATCH_UP a_HAND_OFF a_LOAD a_QUERY a_STATUS T187.heap n0 f227 f203 f204 f205 f206 f207 f208 f209 f210 f211 f212 f213 f214) hZ (hw _ (List.mem_of_getElem? (i := 37) rfl)) (hw _ (List.mem_of_getElem? (i := 36) rfl)) (by decide) (by decide)) (g := (mkF m 20 #[.val (.int p1), .val (.int (3 : Int32)), .val (.int (3 : Int32)), .val (.ref a_STORE)] [(.int (3 : Int32)), (.ref a_STORE)])) rfl (by rw [hml]; rfl) (argsL := [(.int (3 : Int32))]) (rest := [(.ref a_STORE)]) (lenOf pd_2 rfl) rfl (by show 2 * 0 + _ ≤ _; exact Nat.le_of_eq rfl) (hb hby at_20) (fun _ _ => ⟨rfl, rfl, (by decide : 1 + 0 ≤ _), (by decide : 12 + 0 ≤ _)⟩)
    dsimp only [Pt.U, Pt.locs, Pt.cells, Pt.slots] at X228 l228 y228 z228 st228 hQ228
    subst l228 y228 z228
    obtain ⟨rfl, Nq228, eq228⟩ := hQ228
    have N228 := Fr.app N187 Nq228
    refine EndsQ.go st228 ?_
    show EndsQ _ _ _ _ _ _ _ (T228.setTop (mkF m 23 #[.val (.int p1), .val (.int (3 : Int32)), .val (.int (3 : Int32)), .val (.ref a_STORE)] [(.ref (own_exp (3 : Int32) a_MEMBERS a_PULL a_STORE a_READ a_COUNT a_JOIN a_PING a_CATCH_UP a_HAND_OFF a_LOAD a_QUERY a_STATUS)), (.ref a_STORE)]))
    rw [(rfl : (own_exp (3 : Int32) a_MEMBERS a_PULL a_STORE a_READ a_COUNT a_JOIN a_PING a_CATCH_UP a_HAND_OFF a_LOAD a_QUERY a_STATUS) = a_STORE)]
    show EndsQ _ _ _ _ _ _ _ (T228.setTop (mkF m 23 #[.val (.int p1), .val (.int (3 : Int32)), .val (.int (3 : Int32)), .val (.ref a_STORE)] [(.ref a_STORE), (.ref a_STORE)]))
    refine EndsQ.go (b := T228.setTop (mkF m 27 #[.val (.int p1), .val (.int (3 : Int32)), .val (.int (3 : Int32)), .val (.ref a_STORE)] [(.ref a_STORE)])) (fun t k => ?_) ?_
    · show Steps p.tables e below (T228.setTop (mkF m 23 #[.val (.int p1), .val (.int (3 : Int32)), .val (.int (3 : Int32)), .val (.ref a_STORE)] [(.ref a_STORE), (.ref a_STORE)])) _
      refine acmp X228 hx rfl (x := (.ref a_STORE)) (y := (.ref a_STORE)) rfl rfl (pc0 := 23) (pc' := 26) (same := true) rfl (hb hby at_23) rfl (by simp) (by decide) (by decide) ?_
      show Steps p.tables e below (T228.setTop (mkF m 26 #[.val (.int p1), .val (.int (3 : Int32)), .val (.int (3 : Int32)), .val (.ref a_STORE)] [])) _
      refine XS.aloadN X228.here hx rfl (hb hby at_26) rfl rfl ?_
      show Steps p.tables e below (T228.setTop (mkF m 27 #[.val (.int p1), .val (.int (3 : Int32)), .val (.int (3 : Int32)), .val (.ref a_STORE)] [(.ref a_STORE)])) _
      exact k
    obtain ⟨cq229, kq229, qa229, qb229, qc229⟩ := isOf hZ eq228 f217
    obtain ⟨_, _, ⟨T229, L229, kk229, nn229⟩, -, X229, ⟨Lc229, hQ229, l229, y229, z229⟩, st229⟩ := X228.virtualBack hx (y := (⟨"com/example/chainmesh/chainmesh/Op", "code", "()B"⟩ : MethodName)) (z := (⟨"com/example/chainmesh/chainmesh/Op", "code", "()B"⟩ : MethodName)) hown (mvT hZ (hw _ (List.mem_of_getElem? (i := 39) rfl))) (mvT hZ (hw _ (List.mem_of_getElem? (i := 40) rfl))) (notFace_of_selects (args := #[]) (mvT hZ (hw _ (List.mem_of_getElem? (i := 42) rfl)))) (mvT hZ (hw _ (List.mem_of_getElem? (i := 42) rfl))) (mvT hZ (hw _ (List.mem_of_getElem? (i := 41) rfl))) (by decide) (backOf (W := 0) (rm4 l Z a0 hw [] a_STORE (3 : Int32) T187.heap n0 f227 f193) hZ (hw _ (List.mem_of_getElem? (i := 43) rfl)) (hw _ (List.mem_of_getElem? (i := 3) rfl)) (by decide) (by decide)) qa229 qc229 (g := (mkF m 27 #[.val (.int p1), .val (.int (3 : Int32)), .val (.int (3 : Int32)), .val (.ref a_STORE)] [(.ref a_STORE)])) rfl (by rw [hml]; rfl) (Steps.refl _) (argsL := []) (rest := []) (lenOf pd_3 rfl) rfl (by show 2 * 0 + _ ≤ _; exact Nat.le_of_eq rfl) (hb hby at_27) (fun _ _ => ⟨rfl, eq228, (by decide : 1 + 0 ≤ _), (by decide : 12 + 0 ≤ _)⟩)
    dsimp only [Pt.U, Pt.locs, Pt.cells, Pt.slots] at X229 l229 y229 z229 st229 hQ229
    subst l229 y229 z229
    obtain ⟨rfl, Nq229, eq229⟩ := hQ229
    have N229 := Fr.app N228 Nq229
    refine EndsQ.go (fun t k => st229.trans k) ?_
    show EndsQ _ _ _ _ _ _ _ (T229.setTop (mkF m 30 #[.val (.int p1), .val (.int (3 : Int32)), .val (.int (3 : Int32)), .val (.ref a_STORE)] [(.int (nar .byte (3 : Int32)))]))
    refine EndsQ.go (b := T229.setTop (mkF m 39 #[.val (.int p1), .val (.int (3 : Int32)), .val (.int (3 : Int32)), .val (.ref a_STORE)] [(.int (1 : Int32))])) (fun t k => ?_) ?_
    · show Steps p.tables e below (T229.setTop (mkF m 30 #[.val (.int p1), .val (.int (3 : Int32)), .val (.int (3 : Int32)), .val (.ref a_STORE)] [(.int (nar .byte (3 : Int32)))])) _
      refine XS.iloadN X229.here hx rfl (hb hby at_30) rfl ?_
      show Steps p.tables e below (T229.setTop (mkF m 31 #[.val (.int p1), .val (.int (3 : Int32)), .val (.int (3 : Int32)), .val (.ref a_STORE)] [(.int (3 : Int32)), (.int (nar .byte (3 : Int32)))])) _
      refine XS.icmpNo X229.here hx rfl (hb hby at_31) rfl (teq (by decide)).2 ?_
      show Steps p.tables e below (T229.setTop (mkF m 34 #[.val (.int p1), .val (.int (3 : Int32)), .val (.int (3 : Int32)), .val (.ref a_STORE)] [])) _
      refine XS.iconst X229.here hx rfl (hb hby at_34) ?_
      show Steps p.tables e below (T229.setTop (mkF m 35 #[.val (.int p1), .val (.int (3 : Int32)), .val (.int (3 : Int32)), .val (.ref a_STORE)] [(.int (1 : Int32))])) _
      refine XS.goto X229.here hx rfl (pc0 := 35) (pc' := 39) rfl (hb hby at_35) (by decide) (by decide) ?_
      show Steps p.tables e below (T229.setTop (mkF m 39 #[.val (.int p1), .val (.int (3 : Int32)), .val (.int (3 : Int32)), .val (.ref a_STORE)] [(.int (1 : Int32))])) _
      exact k
    refine EndsQ.retN X229 hx Bd.notSynchronized (t := .boolean) Bd.returns (by simp) (hb hby at_39) (by decide) (by decide) ?_
    show Q0 Z p1 a_VALUES kA a_MEMBERS a_PULL a_STORE a_READ a_COUNT a_JOIN a_PING a_CATCH_UP a_HAND_OFF a_LOAD a_QUERY a_STATUS h0 n0 (some (.int (nar .boolean (1 : Int32)))) T229.heap _
    rw [eq229]
    exact ⟨rfl, N229⟩
  · subst hk4
    show EndsQ _ _ _ _ _ _ _ (s₁.setTop (mkF m 10 #[.val (.int p1), .val (.int (4 : Int32)), .unset, .unset] []))
    refine EndsQ.go (b := s₁.setTop (mkF m 12 #[.val (.int p1), .val (.int (4 : Int32)), .unset, .unset] [(.int ((4 : Int32).toInt8.toInt32))])) (fun t k => ?_) ?_
    · show Steps p.tables e below (s₁.setTop (mkF m 10 #[.val (.int p1), .val (.int (4 : Int32)), .unset, .unset] [])) _
      refine XS.iloadN X0.here hx rfl (hb hby at_10) rfl ?_
      show Steps p.tables e below (s₁.setTop (mkF m 11 #[.val (.int p1), .val (.int (4 : Int32)), .unset, .unset] [(.int (4 : Int32))])) _
      refine XS.i2b X0.here hx rfl (hb hby at_11) rfl ?_
      show Steps p.tables e below (s₁.setTop (mkF m 12 #[.val (.int p1), .val (.int (4 : Int32)), .unset, .unset] [(.int ((4 : Int32).toInt8.toInt32))])) _
      exact k
    rw [(by decide : ((4 : Int32).toInt8.toInt32) = (4 : Int32))]
    show EndsQ _ _ _ _ _ _ _ (s₁.setTop (mkF m 12 #[.val (.int p1), .val (.int (4 : Int32)), .unset, .unset] [(.int (4 : Int32))]))
    refine EndsQ.go (b := s₁.setTop (mkF m 14 #[.val (.int p1), .val (.int (4 : Int32)), .val (.int (4 : Int32)), .unset] [(.int (4 : Int32))])) (fun t k => ?_) ?_
    · show Steps p.tables e below (s₁.setTop (mkF m 12 #[.val (.int p1), .val (.int (4 : Int32)), .unset, .unset] [(.int (4 : Int32))])) _
      refine XS.istoreN X0.here hx rfl (hb hby at_12) rfl (l' := #[.val (.int p1), .val (.int (4 : Int32)), .val (.int (4 : Int32)), .unset]) rfl ?_
      show Steps p.tables e below (s₁.setTop (mkF m 13 #[.val (.int p1), .val (.int (4 : Int32)), .val (.int (4 : Int32)), .unset] [])) _
      refine XS.iloadN X0.here hx rfl (hb hby at_13) rfl ?_
      show Steps p.tables e below (s₁.setTop (mkF m 14 #[.val (.int p1), .val (.int (4 : Int32)), .val (.int (4 : Int32)), .unset] [(.int (4 : Int32))])) _
      exact k
    obtain ⟨_, _, ⟨T230, L230, kk230, nn230⟩, -, X230, ⟨Lc230, hQ230, l230, y230, z230⟩, st230⟩ := Jvm.LawKit.callS X0 hx (y := (⟨"com/example/chainmesh/chainmesh/Op", "of", "(B)Lcom/example/chainmesh/chainmesh/Op;"⟩ : MethodName)) hown (mvT hZ (hw _ (List.mem_of_getElem? (i := 1) rfl))) (mvT hZ (hw _ (List.mem_of_getElem? (i := 2) rfl))) (mvT hZ (hw _ (List.mem_of_getElem? (i := 3) rfl))) (mvT hZ (hw _ (List.mem_of_getElem? (i := 4) rfl))) (by decide) (backOf (W := 0) (rm1 l Z a0 hw [] (4 : Int32) a_VALUES kA a_MEMBERS a_PULL a_STORE a_READ a_COUNT a_JOIN a_PING a_CATCH_UP a_HAND_OFF a_LOAD a_QUERY a_STATUS h0 n0 Z0 S_VALUES V_VALUES X_VALUES F_MEMBERS_code F_PULL_code F_STORE_code F_READ_code F_COUNT_code F_JOIN_code F_PING_code F_CATCH_UP_code F_HAND_OFF_code F_LOAD_code F_QUERY_code F_STATUS_code (by decide)) hZ (hw _ (List.mem_of_getElem? (i := 4) rfl)) (hw _ (List.mem_of_getElem? (i := 3) rfl)) (by decide) (by decide)) (g := (mkF m 14 #[.val (.int p1), .val (.int (4 : Int32)), .val (.int (4 : Int32)), .unset] [(.int (4 : Int32))])) rfl (by rw [hml]; rfl) (argsL := [(.int (4 : Int32))]) (rest := []) (lenOf pd_1 rfl) rfl (by show 2 * 0 + _ ≤ _; exact Nat.le_of_eq rfl) (hb hby at_14) (fun _ _ => ⟨rfl, e0, (by decide : 0 + 1 ≤ _), (by decide : 0 + 12 ≤ _)⟩)
    dsimp only [Pt.U, Pt.locs, Pt.cells, Pt.slots] at X230 l230 y230 z230 st230 hQ230
    subst l230 y230 z230
    obtain ⟨rfl, Nq230, E230⟩ := hQ230
    have N230 := Fr.app N0 Nq230
    have f231 : Sta Z T230.heap "com/example/chainmesh/chainmesh/Op" "$VALUES" "[Lcom/example/chainmesh/chainmesh/Op;" (.ref a_VALUES) := S_VALUES.ext E230
    have f232 : Arv Z T230.heap a_VALUES kA (.object "com/example/chainmesh/chainmesh/Op") (12 : Int32) [(.ref a_MEMBERS), (.ref a_PULL), (.ref a_STORE), (.ref a_READ), (.ref a_COUNT), (.ref a_JOIN), (.ref a_PING), (.ref a_CATCH_UP), (.ref a_HAND_OFF), (.ref a_LOAD), (.ref a_QUERY), (.ref a_STATUS)] .null := V_VALUES.ext E230
    have f233 : Exa Z T230.heap a_VALUES "[Lcom/example/chainmesh/chainmesh/Op;" := X_VALUES.ext E230
    have f234 : Fld Z T230.heap a_MEMBERS "com/example/chainmesh/chainmesh/Op" "code" "B" (.int (1 : Int32)) := F_MEMBERS_code.ext E230
    have f235 : Fld Z T230.heap a_PULL "com/example/chainmesh/chainmesh/Op" "code" "B" (.int (2 : Int32)) := F_PULL_code.ext E230
    have f236 : Fld Z T230.heap a_STORE "com/example/chainmesh/chainmesh/Op" "code" "B" (.int (3 : Int32)) := F_STORE_code.ext E230
    have f237 : Fld Z T230.heap a_READ "com/example/chainmesh/chainmesh/Op" "code" "B" (.int (4 : Int32)) := F_READ_code.ext E230
    have f238 : Fld Z T230.heap a_COUNT "com/example/chainmesh/chainmesh/Op" "code" "B" (.int (5 : Int32)) := F_COUNT_code.ext E230
    have f239 : Fld Z T230.heap a_JOIN "com/example/chainmesh/chainmesh/Op" "code" "B" (.int (6 : Int32)) := F_JOIN_code.ext E230
    have f240 : Fld Z T230.heap a_PING "com/example/chainmesh/chainmesh/Op" "code" "B" (.int (7 : Int32)) := F_PING_code.ext E230
    have f241 : Fld Z T230.heap a_CATCH_UP "com/example/chainmesh/chainmesh/Op" "code" "B" (.int (8 : Int32)) := F_CATCH_UP_code.ext E230
    have f242 : Fld Z T230.heap a_HAND_OFF "com/example/chainmesh/chainmesh/Op" "code" "B" (.int (9 : Int32)) := F_HAND_OFF_code.ext E230
    have f243 : Fld Z T230.heap a_LOAD "com/example/chainmesh/chainmesh/Op" "code" "B" (.int (10 : Int32)) := F_LOAD_code.ext E230
    have f244 : Fld Z T230.heap a_QUERY "com/example/chainmesh/chainmesh/Op" "code" "B" (.int (11 : Int32)) := F_QUERY_code.ext E230
    have f245 : Fld Z T230.heap a_STATUS "com/example/chainmesh/chainmesh/Op" "code" "B" (.int (12 : Int32)) := F_STATUS_code.ext E230
    have f246 : Sta Z T230.heap "com/example/chainmesh/chainmesh/Op" "MEMBERS" "Lcom/example/chainmesh/chainmesh/Op;" (.ref a_MEMBERS) := S_MEMBERS.ext E230
    have f247 : Sta Z T230.heap "com/example/chainmesh/chainmesh/Op" "PULL" "Lcom/example/chainmesh/chainmesh/Op;" (.ref a_PULL) := S_PULL.ext E230
    have f248 : Sta Z T230.heap "com/example/chainmesh/chainmesh/Op" "STORE" "Lcom/example/chainmesh/chainmesh/Op;" (.ref a_STORE) := S_STORE.ext E230
    have f249 : Sta Z T230.heap "com/example/chainmesh/chainmesh/Op" "READ" "Lcom/example/chainmesh/chainmesh/Op;" (.ref a_READ) := S_READ.ext E230
    have f250 : Sta Z T230.heap "com/example/chainmesh/chainmesh/Op" "COUNT" "Lcom/example/chainmesh/chainmesh/Op;" (.ref a_COUNT) := S_COUNT.ext E230
    have f251 : Sta Z T230.heap "com/example/chainmesh/chainmesh/Op" "JOIN" "Lcom/example/chainmesh/chainmesh/Op;" (.ref a_JOIN) := S_JOIN.ext E230
    have f252 : Sta Z T230.heap "com/example/chainmesh/chainmesh/Op" "PING" "Lcom/example/chainmesh/chainmesh/Op;" (.ref a_PING) := S_PING.ext E230
    have f253 : Sta Z T230.heap "com/example/chainmesh/chainmesh/Op" "CATCH_UP" "Lcom/example/chainmesh/chainmesh/Op;" (.ref a_CATCH_UP) := S_CATCH_UP.ext E230
    have f254 : Sta Z T230.heap "com/example/chainmesh/chainmesh/Op" "HAND_OFF" "Lcom/example/chainmesh/chainmesh/Op;" (.ref a_HAND_OFF) := S_HAND_OFF.ext E230
    have f255 : Sta Z T230.heap "com/example/chainmesh/chainmesh/Op" "LOAD" "Lcom/example/chainmesh/chainmesh/Op;" (.ref a_LOAD) := S_LOAD.ext E230
    have f256 : Sta Z T230.heap "com/example/chainmesh/chainmesh/Op" "QUERY" "Lcom/example/chainmesh/chainmesh/Op;" (.ref a_QUERY) := S_QUERY.ext E230
    have f257 : Sta Z T230.heap "com/example/chainmesh/chainmesh/Op" "STATUS" "Lcom/example/chainmesh/chainmesh/Op;" (.ref a_STATUS) := S_STATUS.ext E230
    have f258 : Exa Z T230.heap a_MEMBERS "com/example/chainmesh/chainmesh/Op" := E_MEMBERS.ext E230
    have f259 : Exa Z T230.heap a_PULL "com/example/chainmesh/chainmesh/Op" := E_PULL.ext E230
    have f260 : Exa Z T230.heap a_STORE "com/example/chainmesh/chainmesh/Op" := E_STORE.ext E230
    have f261 : Exa Z T230.heap a_READ "com/example/chainmesh/chainmesh/Op" := E_READ.ext E230
    have f262 : Exa Z T230.heap a_COUNT "com/example/chainmesh/chainmesh/Op" := E_COUNT.ext E230
    have f263 : Exa Z T230.heap a_JOIN "com/example/chainmesh/chainmesh/Op" := E_JOIN.ext E230
    have f264 : Exa Z T230.heap a_PING "com/example/chainmesh/chainmesh/Op" := E_PING.ext E230
    have f265 : Exa Z T230.heap a_CATCH_UP "com/example/chainmesh/chainmesh/Op" := E_CATCH_UP.ext E230
    have f266 : Exa Z T230.heap a_HAND_OFF "com/example/chainmesh/chainmesh/Op" := E_HAND_OFF.ext E230
    have f267 : Exa Z T230.heap a_LOAD "com/example/chainmesh/chainmesh/Op" := E_LOAD.ext E230
    have f268 : Exa Z T230.heap a_QUERY "com/example/chainmesh/chainmesh/Op" := E_QUERY.ext E230
    have f269 : Exa Z T230.heap a_STATUS "com/example/chainmesh/chainmesh/Op" := E_STATUS.ext E230
    have f270 : n0 ≤ T230.heap.size := Nat.le_trans Z0 E230.1
    refine EndsQ.go st230 ?_
    show EndsQ _ _ _ _ _ _ _ (T230.setTop (mkF m 17 #[.val (.int p1), .val (.int (4 : Int32)), .val (.int (4 : Int32)), .unset] [(.ref (own_of (4 : Int32) a_MEMBERS a_PULL a_STORE a_READ a_COUNT a_JOIN a_PING a_CATCH_UP a_HAND_OFF a_LOAD a_QUERY a_STATUS))]))
    rw [(rfl : (own_of (4 : Int32) a_MEMBERS a_PULL a_STORE a_READ a_COUNT a_JOIN a_PING a_CATCH_UP a_HAND_OFF a_LOAD a_QUERY a_STATUS) = a_READ)]
    show EndsQ _ _ _ _ _ _ _ (T230.setTop (mkF m 17 #[.val (.int p1), .val (.int (4 : Int32)), .val (.int (4 : Int32)), .unset] [(.ref a_READ)]))
    refine EndsQ.go (b := T230.setTop (mkF m 20 #[.val (.int p1), .val (.int (4 : Int32)), .val (.int (4 : Int32)), .val (.ref a_READ)] [(.int (4 : Int32)), (.ref a_READ)])) (fun t k => ?_) ?_
    · show Steps p.tables e below (T230.setTop (mkF m 17 #[.val (.int p1), .val (.int (4 : Int32)), .val (.int (4 : Int32)), .unset] [(.ref a_READ)])) _
      refine XS.astoreN X230.here hx rfl (hb hby at_17) rfl rfl (l' := #[.val (.int p1), .val (.int (4 : Int32)), .val (.int (4 : Int32)), .val (.ref a_READ)]) rfl ?_
      show Steps p.tables e below (T230.setTop (mkF m 18 #[.val (.int p1), .val (.int (4 : Int32)), .val (.int (4 : Int32)), .val (.ref a_READ)] [])) _
      refine XS.aloadN X230.here hx rfl (hb hby at_18) rfl rfl ?_
      show Steps p.tables e below (T230.setTop (mkF m 19 #[.val (.int p1), .val (.int (4 : Int32)), .val (.int (4 : Int32)), .val (.ref a_READ)] [(.ref a_READ)])) _
      refine XS.iloadN X230.here hx rfl (hb hby at_19) rfl ?_
      show Steps p.tables e below (T230.setTop (mkF m 20 #[.val (.int p1), .val (.int (4 : Int32)), .val (.int (4 : Int32)), .val (.ref a_READ)] [(.int (4 : Int32)), (.ref a_READ)])) _
      exact k
    obtain ⟨_, _, ⟨T271, L271, kk271, nn271⟩, -, X271, ⟨Lc271, hQ271, l271, y271, z271⟩, st271⟩ := Jvm.LawKit.callS X230 hx (y := (⟨"com/example/chainmesh/chainmesh/OpOfPinLaw", "expected", "(I)Lcom/example/chainmesh/chainmesh/Op;"⟩ : MethodName)) hown (mvT hZ (hw _ (List.mem_of_getElem? (i := 34) rfl))) (mvT hZ (hw _ (List.mem_of_getElem? (i := 35) rfl))) (mvT hZ (hw _ (List.mem_of_getElem? (i := 36) rfl))) (mvT hZ (hw _ (List.mem_of_getElem? (i := 37) rfl))) (by decide) (backOf (W := 1) (rm3 l Z a0 hw [] (4 : Int32) a_MEMBERS a_PULL a_STORE a_READ a_COUNT a_JOIN a_PING a_CATCH_UP a_HAND_OFF a_LOAD a_QUERY a_STATUS T230.heap n0 f270 f246 f247 f248 f249 f250 f251 f252 f253 f254 f255 f256 f257) hZ (hw _ (List.mem_of_getElem? (i := 37) rfl)) (hw _ (List.mem_of_getElem? (i := 36) rfl)) (by decide) (by decide)) (g := (mkF m 20 #[.val (.int p1), .val (.int (4 : Int32)), .val (.int (4 : Int32)), .val (.ref a_READ)] [(.int (4 : Int32)), (.ref a_READ)])) rfl (by rw [hml]; rfl) (argsL := [(.int (4 : Int32))]) (rest := [(.ref a_READ)]) (lenOf pd_2 rfl) rfl (by show 2 * 0 + _ ≤ _; exact Nat.le_of_eq rfl) (hb hby at_20) (fun _ _ => ⟨rfl, rfl, (by decide : 1 + 0 ≤ _), (by decide : 12 + 0 ≤ _)⟩)
    dsimp only [Pt.U, Pt.locs, Pt.cells, Pt.slots] at X271 l271 y271 z271 st271 hQ271
    subst l271 y271 z271
    obtain ⟨rfl, Nq271, eq271⟩ := hQ271
    have N271 := Fr.app N230 Nq271
    refine EndsQ.go st271 ?_
    show EndsQ _ _ _ _ _ _ _ (T271.setTop (mkF m 23 #[.val (.int p1), .val (.int (4 : Int32)), .val (.int (4 : Int32)), .val (.ref a_READ)] [(.ref (own_exp (4 : Int32) a_MEMBERS a_PULL a_STORE a_READ a_COUNT a_JOIN a_PING a_CATCH_UP a_HAND_OFF a_LOAD a_QUERY a_STATUS)), (.ref a_READ)]))
    rw [(rfl : (own_exp (4 : Int32) a_MEMBERS a_PULL a_STORE a_READ a_COUNT a_JOIN a_PING a_CATCH_UP a_HAND_OFF a_LOAD a_QUERY a_STATUS) = a_READ)]
    show EndsQ _ _ _ _ _ _ _ (T271.setTop (mkF m 23 #[.val (.int p1), .val (.int (4 : Int32)), .val (.int (4 : Int32)), .val (.ref a_READ)] [(.ref a_READ), (.ref a_READ)]))
    refine EndsQ.go (b := T271.setTop (mkF m 27 #[.val (.int p1), .val (.int (4 : Int32)), .val (.int (4 : Int32)), .val (.ref a_READ)] [(.ref a_READ)])) (fun t k => ?_) ?_
    · show Steps p.tables e below (T271.setTop (mkF m 23 #[.val (.int p1), .val (.int (4 : Int32)), .val (.int (4 : Int32)), .val (.ref a_READ)] [(.ref a_READ), (.ref a_READ)])) _
      refine acmp X271 hx rfl (x := (.ref a_READ)) (y := (.ref a_READ)) rfl rfl (pc0 := 23) (pc' := 26) (same := true) rfl (hb hby at_23) rfl (by simp) (by decide) (by decide) ?_
      show Steps p.tables e below (T271.setTop (mkF m 26 #[.val (.int p1), .val (.int (4 : Int32)), .val (.int (4 : Int32)), .val (.ref a_READ)] [])) _
      refine XS.aloadN X271.here hx rfl (hb hby at_26) rfl rfl ?_
      show Steps p.tables e below (T271.setTop (mkF m 27 #[.val (.int p1), .val (.int (4 : Int32)), .val (.int (4 : Int32)), .val (.ref a_READ)] [(.ref a_READ)])) _
      exact k
    obtain ⟨cq272, kq272, qa272, qb272, qc272⟩ := isOf hZ eq271 f261
    obtain ⟨_, _, ⟨T272, L272, kk272, nn272⟩, -, X272, ⟨Lc272, hQ272, l272, y272, z272⟩, st272⟩ := X271.virtualBack hx (y := (⟨"com/example/chainmesh/chainmesh/Op", "code", "()B"⟩ : MethodName)) (z := (⟨"com/example/chainmesh/chainmesh/Op", "code", "()B"⟩ : MethodName)) hown (mvT hZ (hw _ (List.mem_of_getElem? (i := 39) rfl))) (mvT hZ (hw _ (List.mem_of_getElem? (i := 40) rfl))) (notFace_of_selects (args := #[]) (mvT hZ (hw _ (List.mem_of_getElem? (i := 42) rfl)))) (mvT hZ (hw _ (List.mem_of_getElem? (i := 42) rfl))) (mvT hZ (hw _ (List.mem_of_getElem? (i := 41) rfl))) (by decide) (backOf (W := 0) (rm4 l Z a0 hw [] a_READ (4 : Int32) T230.heap n0 f270 f237) hZ (hw _ (List.mem_of_getElem? (i := 43) rfl)) (hw _ (List.mem_of_getElem? (i := 3) rfl)) (by decide) (by decide)) qa272 qc272 (g := (mkF m 27 #[.val (.int p1), .val (.int (4 : Int32)), .val (.int (4 : Int32)), .val (.ref a_READ)] [(.ref a_READ)])) rfl (by rw [hml]; rfl) (Steps.refl _) (argsL := []) (rest := []) (lenOf pd_3 rfl) rfl (by show 2 * 0 + _ ≤ _; exact Nat.le_of_eq rfl) (hb hby at_27) (fun _ _ => ⟨rfl, eq271, (by decide : 1 + 0 ≤ _), (by decide : 12 + 0 ≤ _)⟩)
    dsimp only [Pt.U, Pt.locs, Pt.cells, Pt.slots] at X272 l272 y272 z272 st272 hQ272
    subst l272 y272 z272
    obtain ⟨rfl, Nq272, eq272⟩ := hQ272
    have N272 := Fr.app N271 Nq272
    refine EndsQ.go (fun t k => st272.trans k) ?_
    show EndsQ _ _ _ _ _ _ _ (T272.setTop (mkF m 30 #[.val (.int p1), .val (.int (4 : Int32)), .val (.int (4 : Int32)), .val (.ref a_READ)] [(.int (nar .byte (4 : Int32)))]))
    refine EndsQ.go (b := T272.setTop (mkF m 39 #[.val (.int p1), .val (.int (4 : Int32)), .val (.int (4 : Int32)), .val (.ref a_READ)] [(.int (1 : Int32))])) (fun t k => ?_) ?_
    · show Steps p.tables e below (T272.setTop (mkF m 30 #[.val (.int p1), .val (.int (4 : Int32)), .val (.int (4 : Int32)), .val (.ref a_READ)] [(.int (nar .byte (4 : Int32)))])) _
      refine XS.iloadN X272.here hx rfl (hb hby at_30) rfl ?_
      show Steps p.tables e below (T272.setTop (mkF m 31 #[.val (.int p1), .val (.int (4 : Int32)), .val (.int (4 : Int32)), .val (.ref a_READ)] [(.int (4 : Int32)), (.int (nar .byte (4 : Int32)))])) _
      refine XS.icmpNo X272.here hx rfl (hb hby at_31) rfl (teq (by decide)).2 ?_
      show Steps p.tables e below (T272.setTop (mkF m 34 #[.val (.int p1), .val (.int (4 : Int32)), .val (.int (4 : Int32)), .val (.ref a_READ)] [])) _
      refine XS.iconst X272.here hx rfl (hb hby at_34) ?_
      show Steps p.tables e below (T272.setTop (mkF m 35 #[.val (.int p1), .val (.int (4 : Int32)), .val (.int (4 : Int32)), .val (.ref a_READ)] [(.int (1 : Int32))])) _
      refine XS.goto X272.here hx rfl (pc0 := 35) (pc' := 39) rfl (hb hby at_35) (by decide) (by decide) ?_
      show Steps p.tables e below (T272.setTop (mkF m 39 #[.val (.int p1), .val (.int (4 : Int32)), .val (.int (4 : Int32)), .val (.ref a_READ)] [(.int (1 : Int32))])) _
      exact k
    refine EndsQ.retN X272 hx Bd.notSynchronized (t := .boolean) Bd.returns (by simp) (hb hby at_39) (by decide) (by decide) ?_
    show Q0 Z p1 a_VALUES kA a_MEMBERS a_PULL a_STORE a_READ a_COUNT a_JOIN a_PING a_CATCH_UP a_HAND_OFF a_LOAD a_QUERY a_STATUS h0 n0 (some (.int (nar .boolean (1 : Int32)))) T272.heap _
    rw [eq272]
    exact ⟨rfl, N272⟩
  · subst hk5
    show EndsQ _ _ _ _ _ _ _ (s₁.setTop (mkF m 10 #[.val (.int p1), .val (.int (5 : Int32)), .unset, .unset] []))
    refine EndsQ.go (b := s₁.setTop (mkF m 12 #[.val (.int p1), .val (.int (5 : Int32)), .unset, .unset] [(.int ((5 : Int32).toInt8.toInt32))])) (fun t k => ?_) ?_
    · show Steps p.tables e below (s₁.setTop (mkF m 10 #[.val (.int p1), .val (.int (5 : Int32)), .unset, .unset] [])) _
      refine XS.iloadN X0.here hx rfl (hb hby at_10) rfl ?_
      show Steps p.tables e below (s₁.setTop (mkF m 11 #[.val (.int p1), .val (.int (5 : Int32)), .unset, .unset] [(.int (5 : Int32))])) _
      refine XS.i2b X0.here hx rfl (hb hby at_11) rfl ?_
      show Steps p.tables e below (s₁.setTop (mkF m 12 #[.val (.int p1), .val (.int (5 : Int32)), .unset, .unset] [(.int ((5 : Int32).toInt8.toInt32))])) _
      exact k
    rw [(by decide : ((5 : Int32).toInt8.toInt32) = (5 : Int32))]
    show EndsQ _ _ _ _ _ _ _ (s₁.setTop (mkF m 12 #[.val (.int p1), .val (.int (5 : Int32)), .unset, .unset] [(.int (5 : Int32))]))
    refine EndsQ.go (b := s₁.setTop (mkF m 14 #[.val (.int p1), .val (.int (5 : Int32)), .val (.int (5 : Int32)), .unset] [(.int (5 : Int32))])) (fun t k => ?_) ?_
    · show Steps p.tables e below (s₁.setTop (mkF m 12 #[.val (.int p1), .val (.int (5 : Int32)), .unset, .unset] [(.int (5 : Int32))])) _
      refine XS.istoreN X0.here hx rfl (hb hby at_12) rfl (l' := #[.val (.int p1), .val (.int (5 : Int32)), .val (.int (5 : Int32)), .unset]) rfl ?_
      show Steps p.tables e below (s₁.setTop (mkF m 13 #[.val (.int p1), .val (.int (5 : Int32)), .val (.int (5 : Int32)), .unset] [])) _
      refine XS.iloadN X0.here hx rfl (hb hby at_13) rfl ?_
      show Steps p.tables e below (s₁.setTop (mkF m 14 #[.val (.int p1), .val (.int (5 : Int32)), .val (.int (5 : Int32)), .unset] [(.int (5 : Int32))])) _
      exact k
    obtain ⟨_, _, ⟨T273, L273, kk273, nn273⟩, -, X273, ⟨Lc273, hQ273, l273, y273, z273⟩, st273⟩ := Jvm.LawKit.callS X0 hx (y := (⟨"com/example/chainmesh/chainmesh/Op", "of", "(B)Lcom/example/chainmesh/chainmesh/Op;"⟩ : MethodName)) hown (mvT hZ (hw _ (List.mem_of_getElem? (i := 1) rfl))) (mvT hZ (hw _ (List.mem_of_getElem? (i := 2) rfl))) (mvT hZ (hw _ (List.mem_of_getElem? (i := 3) rfl))) (mvT hZ (hw _ (List.mem_of_getElem? (i := 4) rfl))) (by decide) (backOf (W := 0) (rm1 l Z a0 hw [] (5 : Int32) a_VALUES kA a_MEMBERS a_PULL a_STORE a_READ a_COUNT a_JOIN a_PING a_CATCH_UP a_HAND_OFF a_LOAD a_QUERY a_STATUS h0 n0 Z0 S_VALUES V_VALUES X_VALUES F_MEMBERS_code F_PULL_code F_STORE_code F_READ_code F_COUNT_code F_JOIN_code F_PING_code F_CATCH_UP_code F_HAND_OFF_code F_LOAD_code F_QUERY_code F_STATUS_code (by decide)) hZ (hw _ (List.mem_of_getElem? (i := 4) rfl)) (hw _ (List.mem_of_getElem? (i := 3) rfl)) (by decide) (by decide)) (g := (mkF m 14 #[.val (.int p1), .val (.int (5 : Int32)), .val (.int (5 : Int32)), .unset] [(.int (5 : Int32))])) rfl (by rw [hml]; rfl) (argsL := [(.int (5 : Int32))]) (rest := []) (lenOf pd_1 rfl) rfl (by show 2 * 0 + _ ≤ _; exact Nat.le_of_eq rfl) (hb hby at_14) (fun _ _ => ⟨rfl, e0, (by decide : 0 + 1 ≤ _), (by decide : 0 + 12 ≤ _)⟩)
    dsimp only [Pt.U, Pt.locs, Pt.cells, Pt.slots] at X273 l273 y273 z273 st273 hQ273
    subst l273 y273 z273
    obtain ⟨rfl, Nq273, E273⟩ := hQ273
    have N273 := Fr.app N0 Nq273
    have f274 : Sta Z T273.heap "com/example/chainmesh/chainmesh/Op" "$VALUES" "[Lcom/example/chainmesh/chainmesh/Op;" (.ref a_VALUES) := S_VALUES.ext E273
    have f275 : Arv Z T273.heap a_VALUES kA (.object "com/example/chainmesh/chainmesh/Op") (12 : Int32) [(.ref a_MEMBERS), (.ref a_PULL), (.ref a_STORE), (.ref a_READ), (.ref a_COUNT), (.ref a_JOIN), (.ref a_PING), (.ref a_CATCH_UP), (.ref a_HAND_OFF), (.ref a_LOAD), (.ref a_QUERY), (.ref a_STATUS)] .null := V_VALUES.ext E273
    have f276 : Exa Z T273.heap a_VALUES "[Lcom/example/chainmesh/chainmesh/Op;" := X_VALUES.ext E273
    have f277 : Fld Z T273.heap a_MEMBERS "com/example/chainmesh/chainmesh/Op" "code" "B" (.int (1 : Int32)) := F_MEMBERS_code.ext E273
    have f278 : Fld Z T273.heap a_PULL "com/example/chainmesh/chainmesh/Op" "code" "B" (.int (2 : Int32)) := F_PULL_code.ext E273
    have f279 : Fld Z T273.heap a_STORE "com/example/chainmesh/chainmesh/Op" "code" "B" (.int (3 : Int32)) := F_STORE_code.ext E273
    have f280 : Fld Z T273.heap a_READ "com/example/chainmesh/chainmesh/Op" "code" "B" (.int (4 : Int32)) := F_READ_code.ext E273
    have f281 : Fld Z T273.heap a_COUNT "com/example/chainmesh/chainmesh/Op" "code" "B" (.int (5 : Int32)) := F_COUNT_code.ext E273
    have f282 : Fld Z T273.heap a_JOIN "com/example/chainmesh/chainmesh/Op" "code" "B" (.int (6 : Int32)) := F_JOIN_code.ext E273
    have f283 : Fld Z T273.heap a_PING "com/example/chainmesh/chainmesh/Op" "code" "B" (.int (7 : Int32)) := F_PING_code.ext E273
    have f284 : Fld Z T273.heap a_CATCH_UP "com/example/chainmesh/chainmesh/Op" "code" "B" (.int (8 : Int32)) := F_CATCH_UP_code.ext E273
    have f285 : Fld Z T273.heap a_HAND_OFF "com/example/chainmesh/chainmesh/Op" "code" "B" (.int (9 : Int32)) := F_HAND_OFF_code.ext E273
    have f286 : Fld Z T273.heap a_LOAD "com/example/chainmesh/chainmesh/Op" "code" "B" (.int (10 : Int32)) := F_LOAD_code.ext E273
    have f287 : Fld Z T273.heap a_QUERY "com/example/chainmesh/chainmesh/Op" "code" "B" (.int (11 : Int32)) := F_QUERY_code.ext E273
    have f288 : Fld Z T273.heap a_STATUS "com/example/chainmesh/chainmesh/Op" "code" "B" (.int (12 : Int32)) := F_STATUS_code.ext E273
    have f289 : Sta Z T273.heap "com/example/chainmesh/chainmesh/Op" "MEMBERS" "Lcom/example/chainmesh/chainmesh/Op;" (.ref a_MEMBERS) := S_MEMBERS.ext E273
    have f290 : Sta Z T273.heap "com/example/chainmesh/chainmesh/Op" "PULL" "Lcom/example/chainmesh/chainmesh/Op;" (.ref a_PULL) := S_PULL.ext E273
    have f291 : Sta Z T273.heap "com/example/chainmesh/chainmesh/Op" "STORE" "Lcom/example/chainmesh/chainmesh/Op;" (.ref a_STORE) := S_STORE.ext E273
    have f292 : Sta Z T273.heap "com/example/chainmesh/chainmesh/Op" "READ" "Lcom/example/chainmesh/chainmesh/Op;" (.ref a_READ) := S_READ.ext E273
    have f293 : Sta Z T273.heap "com/example/chainmesh/chainmesh/Op" "COUNT" "Lcom/example/chainmesh/chainmesh/Op;" (.ref a_COUNT) := S_COUNT.ext E273
    have f294 : Sta Z T273.heap "com/example/chainmesh/chainmesh/Op" "JOIN" "Lcom/example/chainmesh/chainmesh/Op;" (.ref a_JOIN) := S_JOIN.ext E273
    have f295 : Sta Z T273.heap "com/example/chainmesh/chainmesh/Op" "PING" "Lcom/example/chainmesh/chainmesh/Op;" (.ref a_PING) := S_PING.ext E273
    have f296 : Sta Z T273.heap "com/example/chainmesh/chainmesh/Op" "CATCH_UP" "Lcom/example/chainmesh/chainmesh/Op;" (.ref a_CATCH_UP) := S_CATCH_UP.ext E273
    have f297 : Sta Z T273.heap "com/example/chainmesh/chainmesh/Op" "HAND_OFF" "Lcom/example/chainmesh/chainmesh/Op;" (.ref a_HAND_OFF) := S_HAND_OFF.ext E273
    have f298 : Sta Z T273.heap "com/example/chainmesh/chainmesh/Op" "LOAD" "Lcom/example/chainmesh/chainmesh/Op;" (.ref a_LOAD) := S_LOAD.ext E273
    have f299 : Sta Z T273.heap "com/example/chainmesh/chainmesh/Op" "QUERY" "Lcom/example/chainmesh/chainmesh/Op;" (.ref a_QUERY) := S_QUERY.ext E273
    have f300 : Sta Z T273.heap "com/example/chainmesh/chainmesh/Op" "STATUS" "Lcom/example/chainmesh/chainmesh/Op;" (.ref a_STATUS) := S_STATUS.ext E273
    have f301 : Exa Z T273.heap a_MEMBERS "com/example/chainmesh/chainmesh/Op" := E_MEMBERS.ext E273
    have f302 : Exa Z T273.heap a_PULL "com/example/chainmesh/chainmesh/Op" := E_PULL.ext E273
    have f303 : Exa Z T273.heap a_STORE "com/example/chainmesh/chainmesh/Op" := E_STORE.ext E273
    have f304 : Exa Z T273.heap a_READ "com/example/chainmesh/chainmesh/Op" := E_READ.ext E273
    have f305 : Exa Z T273.heap a_COUNT "com/example/chainmesh/chainmesh/Op" := E_COUNT.ext E273
    have f306 : Exa Z T273.heap a_JOIN "com/example/chainmesh/chainmesh/Op" := E_JOIN.ext E273
    have f307 : Exa Z T273.heap a_PING "com/example/chainmesh/chainmesh/Op" := E_PING.ext E273
    have f308 : Exa Z T273.heap a_CATCH_UP "com/example/chainmesh/chainmesh/Op" := E_CATCH_UP.ext E273
    have f309 : Exa Z T273.heap a_HAND_OFF "com/example/chainmesh/chainmesh/Op" := E_HAND_OFF.ext E273
    have f310 : Exa Z T273.heap a_LOAD "com/example/chainmesh/chainmesh/Op" := E_LOAD.ext E273
    have f311 : Exa Z T273.heap a_QUERY "com/example/chainmesh/chainmesh/Op" := E_QUERY.ext E273
    have f312 : Exa Z T273.heap a_STATUS "com/example/chainmesh/chainmesh/Op" := E_STATUS.ext E273
    have f313 : n0 ≤ T273.heap.size := Nat.le_trans Z0 E273.1
    refine EndsQ.go st273 ?_
    show EndsQ _ _ _ _ _ _ _ (T273.setTop (mkF m 17 #[.val (.int p1), .val (.int (5 : Int32)), .val (.int (5 : Int32)), .unset] [(.ref (own_of (5 : Int32) a_MEMBERS a_PULL a_STORE a_READ a_COUNT a_JOIN a_PING a_CATCH_UP a_HAND_OFF a_LOAD a_QUERY a_STATUS))]))
    rw [(rfl : (own_of (5 : Int32) a_MEMBERS a_PULL a_STORE a_READ a_COUNT a_JOIN a_PING a_CATCH_UP a_HAND_OFF a_LOAD a_QUERY a_STATUS) = a_COUNT)]
    show EndsQ _ _ _ _ _ _ _ (T273.setTop (mkF m 17 #[.val (.int p1), .val (.int (5 : Int32)), .val (.int (5 : Int32)), .unset] [(.ref a_COUNT)]))
    refine EndsQ.go (b := T273.setTop (mkF m 20 #[.val (.int p1), .val (.int (5 : Int32)), .val (.int (5 : Int32)), .val (.ref a_COUNT)] [(.int (5 : Int32)), (.ref a_COUNT)])) (fun t k => ?_) ?_
    · show Steps p.tables e below (T273.setTop (mkF m 17 #[.val (.int p1), .val (.int (5 : Int32)), .val (.int (5 : Int32)), .unset] [(.ref a_COUNT)])) _
      refine XS.astoreN X273.here hx rfl (hb hby at_17) rfl rfl (l' := #[.val (.int p1), .val (.int (5 : Int32)), .val (.int (5 : Int32)), .val (.ref a_COUNT)]) rfl ?_
      show Steps p.tables e below (T273.setTop (mkF m 18 #[.val (.int p1), .val (.int (5 : Int32)), .val (.int (5 : Int32)), .val (.ref a_COUNT)] [])) _
      refine XS.aloadN X273.here hx rfl (hb hby at_18) rfl rfl ?_
      show Steps p.tables e below (T273.setTop (mkF m 19 #[.val (.int p1), .val (.int (5 : Int32)), .val (.int (5 : Int32)), .val (.ref a_COUNT)] [(.ref a_COUNT)])) _
      refine XS.iloadN X273.here hx rfl (hb hby at_19) rfl ?_
      show Steps p.tables e below (T273.setTop (mkF m 20 #[.val (.int p1), .val (.int (5 : Int32)), .val (.int (5 : Int32)), .val (.ref a_COUNT)] [(.int (5 : Int32)), (.ref a_COUNT)])) _
      exact k
    obtain ⟨_, _, ⟨T314, L314, kk314, nn314⟩, -, X314, ⟨Lc314, hQ314, l314, y314, z314⟩, st314⟩ := Jvm.LawKit.callS X273 hx (y := (⟨"com/example/chainmesh/chainmesh/OpOfPinLaw", "expected", "(I)Lcom/example/chainmesh/chainmesh/Op;"⟩ : MethodName)) hown (mvT hZ (hw _ (List.mem_of_getElem? (i := 34) rfl))) (mvT hZ (hw _ (List.mem_of_getElem? (i := 35) rfl))) (mvT hZ (hw _ (List.mem_of_getElem? (i := 36) rfl))) (mvT hZ (hw _ (List.mem_of_getElem? (i := 37) rfl))) (by decide) (backOf (W := 1) (rm3 l Z a0 hw [] (5 : Int32) a_MEMBERS a_PULL a_STORE a_READ a_COUNT a_JOIN a_PING a_CATCH_UP a_HAND_OFF a_LOAD a_QUERY a_STATUS T273.heap n0 f313 f289 f290 f291 f292 f293 f294 f295 f296 f297 f298 f299 f300) hZ (hw _ (List.mem_of_getElem? (i := 37) rfl)) (hw _ (List.mem_of_getElem? (i := 36) rfl)) (by decide) (by decide)) (g := (mkF m 20 #[.val (.int p1), .val (.int (5 : Int32)), .val (.int (5 : Int32)), .val (.ref a_COUNT)] [(.int (5 : Int32)), (.ref a_COUNT)])) rfl (by rw [hml]; rfl) (argsL := [(.int (5 : Int32))]) (rest := [(.ref a_COUNT)]) (lenOf pd_2 rfl) rfl (by show 2 * 0 + _ ≤ _; exact Nat.le_of_eq rfl) (hb hby at_20) (fun _ _ => ⟨rfl, rfl, (by decide : 1 + 0 ≤ _), (by decide : 12 + 0 ≤ _)⟩)
    dsimp only [Pt.U, Pt.locs, Pt.cells, Pt.slots] at X314 l314 y314 z314 st314 hQ314
    subst l314 y314 z314
    obtain ⟨rfl, Nq314, eq314⟩ := hQ314
    have N314 := Fr.app N273 Nq314
    refine EndsQ.go st314 ?_
    show EndsQ _ _ _ _ _ _ _ (T314.setTop (mkF m 23 #[.val (.int p1), .val (.int (5 : Int32)), .val (.int (5 : Int32)), .val (.ref a_COUNT)] [(.ref (own_exp (5 : Int32) a_MEMBERS a_PULL a_STORE a_READ a_COUNT a_JOIN a_PING a_CATCH_UP a_HAND_OFF a_LOAD a_QUERY a_STATUS)), (.ref a_COUNT)]))
    rw [(rfl : (own_exp (5 : Int32) a_MEMBERS a_PULL a_STORE a_READ a_COUNT a_JOIN a_PING a_CATCH_UP a_HAND_OFF a_LOAD a_QUERY a_STATUS) = a_COUNT)]
    show EndsQ _ _ _ _ _ _ _ (T314.setTop (mkF m 23 #[.val (.int p1), .val (.int (5 : Int32)), .val (.int (5 : Int32)), .val (.ref a_COUNT)] [(.ref a_COUNT), (.ref a_COUNT)]))
    refine EndsQ.go (b := T314.setTop (mkF m 27 #[.val (.int p1), .val (.int (5 : Int32)), .val (.int (5 : Int32)), .val (.ref a_COUNT)] [(.ref a_COUNT)])) (fun t k => ?_) ?_
    · show Steps p.tables e below (T314.setTop (mkF m 23 #[.val (.int p1), .val (.int (5 : Int32)), .val (.int (5 : Int32)), .val (.ref a_COUNT)] [(.ref a_COUNT), (.ref a_COUNT)])) _
      refine acmp X314 hx rfl (x := (.ref a_COUNT)) (y := (.ref a_COUNT)) rfl rfl (pc0 := 23) (pc' := 26) (same := true) rfl (hb hby at_23) rfl (by simp) (by decide) (by decide) ?_
      show Steps p.tables e below (T314.setTop (mkF m 26 #[.val (.int p1), .val (.int (5 : Int32)), .val (.int (5 : Int32)), .val (.ref a_COUNT)] [])) _
      refine XS.aloadN X314.here hx rfl (hb hby at_26) rfl rfl ?_
      show Steps p.tables e below (T314.setTop (mkF m 27 #[.val (.int p1), .val (.int (5 : Int32)), .val (.int (5 : Int32)), .val (.ref a_COUNT)] [(.ref a_COUNT)])) _
      exact k
    obtain ⟨cq315, kq315, qa315, qb315, qc315⟩ := isOf hZ eq314 f305
    obtain ⟨_, _, ⟨T315, L315, kk315, nn315⟩, -, X315, ⟨Lc315, hQ315, l315, y315, z315⟩, st315⟩ := X314.virtualBack hx (y := (⟨"com/example/chainmesh/chainmesh/Op", "code", "()B"⟩ : MethodName)) (z := (⟨"com/example/chainmesh/chainmesh/Op", "code", "()B"⟩ : MethodName)) hown (mvT hZ (hw _ (List.mem_of_getElem? (i := 39) rfl))) (mvT hZ (hw _ (List.mem_of_getElem? (i := 40) rfl))) (notFace_of_selects (args := #[]) (mvT hZ (hw _ (List.mem_of_getElem? (i := 42) rfl)))) (mvT hZ (hw _ (List.mem_of_getElem? (i := 42) rfl))) (mvT hZ (hw _ (List.mem_of_getElem? (i := 41) rfl))) (by decide) (backOf (W := 0) (rm4 l Z a0 hw [] a_COUNT (5 : Int32) T273.heap n0 f313 f281) hZ (hw _ (List.mem_of_getElem? (i := 43) rfl)) (hw _ (List.mem_of_getElem? (i := 3) rfl)) (by decide) (by decide)) qa315 qc315 (g := (mkF m 27 #[.val (.int p1), .val (.int (5 : Int32)), .val (.int (5 : Int32)), .val (.ref a_COUNT)] [(.ref a_COUNT)])) rfl (by rw [hml]; rfl) (Steps.refl _) (argsL := []) (rest := []) (lenOf pd_3 rfl) rfl (by show 2 * 0 + _ ≤ _; exact Nat.le_of_eq rfl) (hb hby at_27) (fun _ _ => ⟨rfl, eq314, (by decide : 1 + 0 ≤ _), (by decide : 12 + 0 ≤ _)⟩)
    dsimp only [Pt.U, Pt.locs, Pt.cells, Pt.slots] at X315 l315 y315 z315 st315 hQ315
    subst l315 y315 z315
    obtain ⟨rfl, Nq315, eq315⟩ := hQ315
    have N315 := Fr.app N314 Nq315
    refine EndsQ.go (fun t k => st315.trans k) ?_
    show EndsQ _ _ _ _ _ _ _ (T315.setTop (mkF m 30 #[.val (.int p1), .val (.int (5 : Int32)), .val (.int (5 : Int32)), .val (.ref a_COUNT)] [(.int (nar .byte (5 : Int32)))]))
    refine EndsQ.go (b := T315.setTop (mkF m 39 #[.val (.int p1), .val (.int (5 : Int32)), .val (.int (5 : Int32)), .val (.ref a_COUNT)] [(.int (1 : Int32))])) (fun t k => ?_) ?_
    · show Steps p.tables e below (T315.setTop (mkF m 30 #[.val (.int p1), .val (.int (5 : Int32)), .val (.int (5 : Int32)), .val (.ref a_COUNT)] [(.int (nar .byte (5 : Int32)))])) _
      refine XS.iloadN X315.here hx rfl (hb hby at_30) rfl ?_
      show Steps p.tables e below (T315.setTop (mkF m 31 #[.val (.int p1), .val (.int (5 : Int32)), .val (.int (5 : Int32)), .val (.ref a_COUNT)] [(.int (5 : Int32)), (.int (nar .byte (5 : Int32)))])) _
      refine XS.icmpNo X315.here hx rfl (hb hby at_31) rfl (teq (by decide)).2 ?_
      show Steps p.tables e below (T315.setTop (mkF m 34 #[.val (.int p1), .val (.int (5 : Int32)), .val (.int (5 : Int32)), .val (.ref a_COUNT)] [])) _
      refine XS.iconst X315.here hx rfl (hb hby at_34) ?_
      show Steps p.tables e below (T315.setTop (mkF m 35 #[.val (.int p1), .val (.int (5 : Int32)), .val (.int (5 : Int32)), .val (.ref a_COUNT)] [(.int (1 : Int32))])) _
      refine XS.goto X315.here hx rfl (pc0 := 35) (pc' := 39) rfl (hb hby at_35) (by decide) (by decide) ?_
      show Steps p.tables e below (T315.setTop (mkF m 39 #[.val (.int p1), .val (.int (5 : Int32)), .val (.int (5 : Int32)), .val (.ref a_COUNT)] [(.int (1 : Int32))])) _
      exact k
    refine EndsQ.retN X315 hx Bd.notSynchronized (t := .boolean) Bd.returns (by simp) (hb hby at_39) (by decide) (by decide) ?_
    show Q0 Z p1 a_VALUES kA a_MEMBERS a_PULL a_STORE a_READ a_COUNT a_JOIN a_PING a_CATCH_UP a_HAND_OFF a_LOAD a_QUERY a_STATUS h0 n0 (some (.int (nar .boolean (1 : Int32)))) T315.heap _
    rw [eq315]
    exact ⟨rfl, N315⟩
  · subst hk6
    show EndsQ _ _ _ _ _ _ _ (s₁.setTop (mkF m 10 #[.val (.int p1), .val (.int (6 : Int32)), .unset, .unset] []))
    refine EndsQ.go (b := s₁.setTop (mkF m 12 #[.val (.int p1), .val (.int (6 : Int32)), .unset, .unset] [(.int ((6 : Int32).toInt8.toInt32))])) (fun t k => ?_) ?_
    · show Steps p.tables e below (s₁.setTop (mkF m 10 #[.val (.int p1), .val (.int (6 : Int32)), .unset, .unset] [])) _
      refine XS.iloadN X0.here hx rfl (hb hby at_10) rfl ?_
      show Steps p.tables e below (s₁.setTop (mkF m 11 #[.val (.int p1), .val (.int (6 : Int32)), .unset, .unset] [(.int (6 : Int32))])) _
      refine XS.i2b X0.here hx rfl (hb hby at_11) rfl ?_
      show Steps p.tables e below (s₁.setTop (mkF m 12 #[.val (.int p1), .val (.int (6 : Int32)), .unset, .unset] [(.int ((6 : Int32).toInt8.toInt32))])) _
      exact k
    rw [(by decide : ((6 : Int32).toInt8.toInt32) = (6 : Int32))]
    show EndsQ _ _ _ _ _ _ _ (s₁.setTop (mkF m 12 #[.val (.int p1), .val (.int (6 : Int32)), .unset, .unset] [(.int (6 : Int32))]))
    refine EndsQ.go (b := s₁.setTop (mkF m 14 #[.val (.int p1), .val (.int (6 : Int32)), .val (.int (6 : Int32)), .unset] [(.int (6 : Int32))])) (fun t k => ?_) ?_
    · show Steps p.tables e below (s₁.setTop (mkF m 12 #[.val (.int p1), .val (.int (6 : Int32)), .unset, .unset] [(.int (6 : Int32))])) _
      refine XS.istoreN X0.here hx rfl (hb hby at_12) rfl (l' := #[.val (.int p1), .val (.int (6 : Int32)), .val (.int (6 : Int32)), .unset]) rfl ?_
      show Steps p.tables e below (s₁.setTop (mkF m 13 #[.val (.int p1), .val (.int (6 : Int32)), .val (.int (6 : Int32)), .unset] [])) _
      refine XS.iloadN X0.here hx rfl (hb hby at_13) rfl ?_
      show Steps p.tables e below (s₁.setTop (mkF m 14 #[.val (.int p1), .val (.int (6 : Int32)), .val (.int (6 : Int32)), .unset] [(.int (6 : Int32))])) _
      exact k
    obtain ⟨_, _, ⟨T316, L316, kk316, nn316⟩, -, X316, ⟨Lc316, hQ316, l316, y316, z316⟩, st316⟩ := Jvm.LawKit.callS X0 hx (y := (⟨"com/example/chainmesh/chainmesh/Op", "of", "(B)Lcom/example/chainmesh/chainmesh/Op;"⟩ : MethodName)) hown (mvT hZ (hw _ (List.mem_of_getElem? (i := 1) rfl))) (mvT hZ (hw _ (List.mem_of_getElem? (i := 2) rfl))) (mvT hZ (hw _ (List.mem_of_getElem? (i := 3) rfl))) (mvT hZ (hw _ (List.mem_of_getElem? (i := 4) rfl))) (by decide) (backOf (W := 0) (rm1 l Z a0 hw [] (6 : Int32) a_VALUES kA a_MEMBERS a_PULL a_STORE a_READ a_COUNT a_JOIN a_PING a_CATCH_UP a_HAND_OFF a_LOAD a_QUERY a_STATUS h0 n0 Z0 S_VALUES V_VALUES X_VALUES F_MEMBERS_code F_PULL_code F_STORE_code F_READ_code F_COUNT_code F_JOIN_code F_PING_code F_CATCH_UP_code F_HAND_OFF_code F_LOAD_code F_QUERY_code F_STATUS_code (by decide)) hZ (hw _ (List.mem_of_getElem? (i := 4) rfl)) (hw _ (List.mem_of_getElem? (i := 3) rfl)) (by decide) (by decide)) (g := (mkF m 14 #[.val (.int p1), .val (.int (6 : Int32)), .val (.int (6 : Int32)), .unset] [(.int (6 : Int32))])) rfl (by rw [hml]; rfl) (argsL := [(.int (6 : Int32))]) (rest := []) (lenOf pd_1 rfl) rfl (by show 2 * 0 + _ ≤ _; exact Nat.le_of_eq rfl) (hb hby at_14) (fun _ _ => ⟨rfl, e0, (by decide : 0 + 1 ≤ _), (by decide : 0 + 12 ≤ _)⟩)
    dsimp only [Pt.U, Pt.locs, Pt.cells, Pt.slots] at X316 l316 y316 z316 st316 hQ316
    subst l316 y316 z316
    obtain ⟨rfl, Nq316, E316⟩ := hQ316
    have N316 := Fr.app N0 Nq316
    have f317 : Sta Z T316.heap "com/example/chainmesh/chainmesh/Op" "$VALUES" "[Lcom/example/chainmesh/chainmesh/Op;" (.ref a_VALUES) := S_VALUES.ext E316
    have f318 : Arv Z T316.heap a_VALUES kA (.object "com/example/chainmesh/chainmesh/Op") (12 : Int32) [(.ref a_MEMBERS), (.ref a_PULL), (.ref a_STORE), (.ref a_READ), (.ref a_COUNT), (.ref a_JOIN), (.ref a_PING), (.ref a_CATCH_UP), (.ref a_HAND_OFF), (.ref a_LOAD), (.ref a_QUERY), (.ref a_STATUS)] .null := V_VALUES.ext E316
    have f319 : Exa Z T316.heap a_VALUES "[Lcom/example/chainmesh/chainmesh/Op;" := X_VALUES.ext E316
    have f320 : Fld Z T316.heap a_MEMBERS "com/example/chainmesh/chainmesh/Op" "code" "B" (.int (1 : Int32)) := F_MEMBERS_code.ext E316
    have f321 : Fld Z T316.heap a_PULL "com/example/chainmesh/chainmesh/Op" "code" "B" (.int (2 : Int32)) := F_PULL_code.ext E316
    have f322 : Fld Z T316.heap a_STORE "com/example/chainmesh/chainmesh/Op" "code" "B" (.int (3 : Int32)) := F_STORE_code.ext E316
    have f323 : Fld Z T316.heap a_READ "com/example/chainmesh/chainmesh/Op" "code" "B" (.int (4 : Int32)) := F_READ_code.ext E316
    have f324 : Fld Z T316.heap a_COUNT "com/example/chainmesh/chainmesh/Op" "code" "B" (.int (5 : Int32)) := F_COUNT_code.ext E316
    have f325 : Fld Z T316.heap a_JOIN "com/example/chainmesh/chainmesh/Op" "code" "B" (.int (6 : Int32)) := F_JOIN_code.ext E316
    have f326 : Fld Z T316.heap a_PING "com/example/chainmesh/chainmesh/Op" "code" "B" (.int (7 : Int32)) := F_PING_code.ext E316
    have f327 : Fld Z T316.heap a_CATCH_UP "com/example/chainmesh/chainmesh/Op" "code" "B" (.int (8 : Int32)) := F_CATCH_UP_code.ext E316
    have f328 : Fld Z T316.heap a_HAND_OFF "com/example/chainmesh/chainmesh/Op" "code" "B" (.int (9 : Int32)) := F_HAND_OFF_code.ext E316
    have f329 : Fld Z T316.heap a_LOAD "com/example/chainmesh/chainmesh/Op" "code" "B" (.int (10 : Int32)) := F_LOAD_code.ext E316
    have f330 : Fld Z T316.heap a_QUERY "com/example/chainmesh/chainmesh/Op" "code" "B" (.int (11 : Int32)) := F_QUERY_code.ext E316
    have f331 : Fld Z T316.heap a_STATUS "com/example/chainmesh/chainmesh/Op" "code" "B" (.int (12 : Int32)) := F_STATUS_code.ext E316
    have f332 : Sta Z T316.heap "com/example/chainmesh/chainmesh/Op" "MEMBERS" "Lcom/example/chainmesh/chainmesh/Op;" (.ref a_MEMBERS) := S_MEMBERS.ext E316
    have f333 : Sta Z T316.heap "com/example/chainmesh/chainmesh/Op" "PULL" "Lcom/example/chainmesh/chainmesh/Op;" (.ref a_PULL) := S_PULL.ext E316
    have f334 : Sta Z T316.heap "com/example/chainmesh/chainmesh/Op" "STORE" "Lcom/example/chainmesh/chainmesh/Op;" (.ref a_STORE) := S_STORE.ext E316
    have f335 : Sta Z T316.heap "com/example/chainmesh/chainmesh/Op" "READ" "Lcom/example/chainmesh/chainmesh/Op;" (.ref a_READ) := S_READ.ext E316
    have f336 : Sta Z T316.heap "com/example/chainmesh/chainmesh/Op" "COUNT" "Lcom/example/chainmesh/chainmesh/Op;" (.ref a_COUNT) := S_COUNT.ext E316
    have f337 : Sta Z T316.heap "com/example/chainmesh/chainmesh/Op" "JOIN" "Lcom/example/chainmesh/chainmesh/Op;" (.ref a_JOIN) := S_JOIN.ext E316
    have f338 : Sta Z T316.heap "com/example/chainmesh/chainmesh/Op" "PING" "Lcom/example/chainmesh/chainmesh/Op;" (.ref a_PING) := S_PING.ext E316
    have f339 : Sta Z T316.heap "com/example/chainmesh/chainmesh/Op" "CATCH_UP" "Lcom/example/chainmesh/chainmesh/Op;" (.ref a_CATCH_UP) := S_CATCH_UP.ext E316
    have f340 : Sta Z T316.heap "com/example/chainmesh/chainmesh/Op" "HAND_OFF" "Lcom/example/chainmesh/chainmesh/Op;" (.ref a_HAND_OFF) := S_HAND_OFF.ext E316
    have f341 : Sta Z T316.heap "com/example/chainmesh/chainmesh/Op" "LOAD" "Lcom/example/chainmesh/chainmesh/Op;" (.ref a_LOAD) := S_LOAD.ext E316
    have f342 : Sta Z T316.heap "com/example/chainmesh/chainmesh/Op" "QUERY" "Lcom/example/chainmesh/chainmesh/Op;" (.ref a_QUERY) := S_QUERY.ext E316
    have f343 : Sta Z T316.heap "com/example/chainmesh/chainmesh/Op" "STATUS" "Lcom/example/chainmesh/chainmesh/Op;" (.ref a_STATUS) := S_STATUS.ext E316
    have f344 : Exa Z T316.heap a_MEMBERS "com/example/chainmesh/chainmesh/Op" := E_MEMBERS.ext E316
    have f345 : Exa Z T316.heap a_PULL "com/example/chainmesh/chainmesh/Op" := E_PULL.ext E316
    have f346 : Exa Z T316.heap a_STORE "com/example/chainmesh/chainmesh/Op" := E_STORE.ext E316
    have f347 : Exa Z T316.heap a_READ "com/example/chainmesh/chainmesh/Op" := E_READ.ext E316
    have f348 : Exa Z T316.heap a_COUNT "com/example/chainmesh/chainmesh/Op" := E_COUNT.ext E316
    have f349 : Exa Z T316.heap a_JOIN "com/example/chainmesh/chainmesh/Op" := E_JOIN.ext E316
    have f350 : Exa Z T316.heap a_PING "com/example/chainmesh/chainmesh/Op" := E_PING.ext E316
    have f351 : Exa Z T316.heap a_CATCH_UP "com/example/chainmesh/chainmesh/Op" := E_CATCH_UP.ext E316
    have f352 : Exa Z T316.heap a_HAND_OFF "com/example/chainmesh/chainmesh/Op" := E_HAND_OFF.ext E316
    have f353 : Exa Z T316.heap a_LOAD "com/example/chainmesh/chainmesh/Op" := E_LOAD.ext E316
    have f354 : Exa Z T316.heap a_QUERY "com/example/chainmesh/chainmesh/Op" := E_QUERY.ext E316
    have f355 : Exa Z T316.heap a_STATUS "com/example/chainmesh/chainmesh/Op" := E_STATUS.ext E316
    have f356 : n0 ≤ T316.heap.size := Nat.le_trans Z0 E316.1
    refine EndsQ.go st316 ?_
    show EndsQ _ _ _ _ _ _ _ (T316.setTop (mkF m 17 #[.val (.int p1), .val (.int (6 : Int32)), .val (.int (6 : Int32)), .unset] [(.ref (own_of (6 : Int32) a_MEMBERS a_PULL a_STORE a_READ a_COUNT a_JOIN a_PING a_CATCH_UP a_HAND_OFF a_LOAD a_QUERY a_STATUS))]))
    rw [(rfl : (own_of (6 : Int32) a_MEMBERS a_PULL a_STORE a_READ a_COUNT a_JOIN a_PING a_CATCH_UP a_HAND_OFF a_LOAD a_QUERY a_STATUS) = a_JOIN)]
    show EndsQ _ _ _ _ _ _ _ (T316.setTop (mkF m 17 #[.val (.int p1), .val (.int (6 : Int32)), .val (.int (6 : Int32)), .unset] [(.ref a_JOIN)]))
    refine EndsQ.go (b := T316.setTop (mkF m 20 #[.val (.int p1), .val (.int (6 : Int32)), .val (.int (6 : Int32)), .val (.ref a_JOIN)] [(.int (6 : Int32)), (.ref a_JOIN)])) (fun t k => ?_) ?_
    · show Steps p.tables e below (T316.setTop (mkF m 17 #[.val (.int p1), .val (.int (6 : Int32)), .val (.int (6 : Int32)), .unset] [(.ref a_JOIN)])) _
      refine XS.astoreN X316.here hx rfl (hb hby at_17) rfl rfl (l' := #[.val (.int p1), .val (.int (6 : Int32)), .val (.int (6 : Int32)), .val (.ref a_JOIN)]) rfl ?_
      show Steps p.tables e below (T316.setTop (mkF m 18 #[.val (.int p1), .val (.int (6 : Int32)), .val (.int (6 : Int32)), .val (.ref a_JOIN)] [])) _
      refine XS.aloadN X316.here hx rfl (hb hby at_18) rfl rfl ?_
      show Steps p.tables e below (T316.setTop (mkF m 19 #[.val (.int p1), .val (.int (6 : Int32)), .val (.int (6 : Int32)), .val (.ref a_JOIN)] [(.ref a_JOIN)])) _
      refine XS.iloadN X316.here hx rfl (hb hby at_19) rfl ?_
      show Steps p.tables e below (T316.setTop (mkF m 20 #[.val (.int p1), .val (.int (6 : Int32)), .val (.int (6 : Int32)), .val (.ref a_JOIN)] [(.int (6 : Int32)), (.ref a_JOIN)])) _
      exact k
    obtain ⟨_, _, ⟨T357, L357, kk357, nn357⟩, -, X357, ⟨Lc357, hQ357, l357, y357, z357⟩, st357⟩ := Jvm.LawKit.callS X316 hx (y := (⟨"com/example/chainmesh/chainmesh/OpOfPinLaw", "expected", "(I)Lcom/example/chainmesh/chainmesh/Op;"⟩ : MethodName)) hown (mvT hZ (hw _ (List.mem_of_getElem? (i := 34) rfl))) (mvT hZ (hw _ (List.mem_of_getElem? (i := 35) rfl))) (mvT hZ (hw _ (List.mem_of_getElem? (i := 36) rfl))) (mvT hZ (hw _ (List.mem_of_getElem? (i := 37) rfl))) (by decide) (backOf (W := 1) (rm3 l Z a0 hw [] (6 : Int32) a_MEMBERS a_PULL a_STORE a_READ a_COUNT a_JOIN a_PING a_CATCH_UP a_HAND_OFF a_LOAD a_QUERY a_STATUS T316.heap n0 f356 f332 f333 f334 f335 f336 f337 f338 f339 f340 f341 f342 f343) hZ (hw _ (List.mem_of_getElem? (i := 37) rfl)) (hw _ (List.mem_of_getElem? (i := 36) rfl)) (by decide) (by decide)) (g := (mkF m 20 #[.val (.int p1), .val (.int (6 : Int32)), .val (.int (6 : Int32)), .val (.ref a_JOIN)] [(.int (6 : Int32)), (.ref a_JOIN)])) rfl (by rw [hml]; rfl) (argsL := [(.int (6 : Int32))]) (rest := [(.ref a_JOIN)]) (lenOf pd_2 rfl) rfl (by show 2 * 0 + _ ≤ _; exact Nat.le_of_eq rfl) (hb hby at_20) (fun _ _ => ⟨rfl, rfl, (by decide : 1 + 0 ≤ _), (by decide : 12 + 0 ≤ _)⟩)
    dsimp only [Pt.U, Pt.locs, Pt.cells, Pt.slots] at X357 l357 y357 z357 st357 hQ357
    subst l357 y357 z357
    obtain ⟨rfl, Nq357, eq357⟩ := hQ357
    have N357 := Fr.app N316 Nq357
    refine EndsQ.go st357 ?_
    show EndsQ _ _ _ _ _ _ _ (T357.setTop (mkF m 23 #[.val (.int p1), .val (.int (6 : Int32)), .val (.int (6 : Int32)), .val (.ref a_JOIN)] [(.ref (own_exp (6 : Int32) a_MEMBERS a_PULL a_STORE a_READ a_COUNT a_JOIN a_PING a_CATCH_UP a_HAND_OFF a_LOAD a_QUERY a_STATUS)), (.ref a_JOIN)]))
    rw [(rfl : (own_exp (6 : Int32) a_MEMBERS a_PULL a_STORE a_READ a_COUNT a_JOIN a_PING a_CATCH_UP a_HAND_OFF a_LOAD a_QUERY a_STATUS) = a_JOIN)]
    show EndsQ _ _ _ _ _ _ _ (T357.setTop (mkF m 23 #[.val (.int p1), .val (.int (6 : Int32)), .val (.int (6 : Int32)), .val (.ref a_JOIN)] [(.ref a_JOIN), (.ref a_JOIN)]))
    refine EndsQ.go (b := T357.setTop (mkF m 27 #[.val (.int p1), .val (.int (6 : Int32)), .val (.int (6 : Int32)), .val (.ref a_JOIN)] [(.ref a_JOIN)])) (fun t k => ?_) ?_
    · show Steps p.tables e below (T357.setTop (mkF m 23 #[.val (.int p1), .val (.int (6 : Int32)), .val (.int (6 : Int32)), .val (.ref a_JOIN)] [(.ref a_JOIN), (.ref a_JOIN)])) _
      refine acmp X357 hx rfl (x := (.ref a_JOIN)) (y := (.ref a_JOIN)) rfl rfl (pc0 := 23) (pc' := 26) (same := true) rfl (hb hby at_23) rfl (by simp) (by decide) (by decide) ?_
      show Steps p.tables e below (T357.setTop (mkF m 26 #[.val (.int p1), .val (.int (6 : Int32)), .val (.int (6 : Int32)), .val (.ref a_JOIN)] [])) _
      refine XS.aloadN X357.here hx rfl (hb hby at_26) rfl rfl ?_
      show Steps p.tables e below (T357.setTop (mkF m 27 #[.val (.int p1), .val (.int (6 : Int32)), .val (.int (6 : Int32)), .val (.ref a_JOIN)] [(.ref a_JOIN)])) _
      exact k
    obtain ⟨cq358, kq358, qa358, qb358, qc358⟩ := isOf hZ eq357 f349
    obtain ⟨_, _, ⟨T358, L358, kk358, nn358⟩, -, X358, ⟨Lc358, hQ358, l358, y358, z358⟩, st358⟩ := X357.virtualBack hx (y := (⟨"com/example/chainmesh/chainmesh/Op", "code", "()B"⟩ : MethodName)) (z := (⟨"com/example/chainmesh/chainmesh/Op", "code", "()B"⟩ : MethodName)) hown (mvT hZ (hw _ (List.mem_of_getElem? (i := 39) rfl))) (mvT hZ (hw _ (List.mem_of_getElem? (i := 40) rfl))) (notFace_of_selects (args := #[]) (mvT hZ (hw _ (List.mem_of_getElem? (i := 42) rfl)))) (mvT hZ (hw _ (List.mem_of_getElem? (i := 42) rfl))) (mvT hZ (hw _ (List.mem_of_getElem? (i := 41) rfl))) (by decide) (backOf (W := 0) (rm4 l Z a0 hw [] a_JOIN (6 : Int32) T316.heap n0 f356 f325) hZ (hw _ (List.mem_of_getElem? (i := 43) rfl)) (hw _ (List.mem_of_getElem? (i := 3) rfl)) (by decide) (by decide)) qa358 qc358 (g := (mkF m 27 #[.val (.int p1), .val (.int (6 : Int32)), .val (.int (6 : Int32)), .val (.ref a_JOIN)] [(.ref a_JOIN)])) rfl (by rw [hml]; rfl) (Steps.refl _) (argsL := []) (rest := []) (lenOf pd_3 rfl) rfl (by show 2 * 0 + _ ≤ _; exact Nat.le_of_eq rfl) (hb hby at_27) (fun _ _ => ⟨rfl, eq357, (by decide : 1 + 0 ≤ _), (by decide : 12 + 0 ≤ _)⟩)
    dsimp only [Pt.U, Pt.locs, Pt.cells, Pt.slots] at X358 l358 y358 z358 st358 hQ358
    subst l358 y358 z358
    obtain ⟨rfl, Nq358, eq358⟩ := hQ358
    have N358 := Fr.app N357 Nq358
    refine EndsQ.go (fun t k => st358.trans k) ?_
    show EndsQ _ _ _ _ _ _ _ (T358.setTop (mkF m 30 #[.val (.int p1), .val (.int (6 : Int32)), .val (.int (6 : Int32)), .val (.ref a_JOIN)] [(.int (nar .byte (6 : Int32)))]))
    refine EndsQ.go (b := T358.setTop (mkF m 39 #[.val (.int p1), .val (.int (6 : Int32)), .val (.int (6 : Int32)), .val (.ref a_JOIN)] [(.int (1 : Int32))])) (fun t k => ?_) ?_
    · show Steps p.tables e below (T358.setTop (mkF m 30 #[.val (.int p1), .val (.int (6 : Int32)), .val (.int (6 : Int32)), .val (.ref a_JOIN)] [(.int (nar .byte (6 : Int32)))])) _
      refine XS.iloadN X358.here hx rfl (hb hby at_30) rfl ?_
      show Steps p.tables e below (T358.setTop (mkF m 31 #[.val (.int p1), .val (.int (6 : Int32)), .val (.int (6 : Int32)), .val (.ref a_JOIN)] [(.int (6 : Int32)), (.int (nar .byte (6 : Int32)))])) _
      refine XS.icmpNo X358.here hx rfl (hb hby at_31) rfl (teq (by decide)).2 ?_
      show Steps p.tables e below (T358.setTop (mkF m 34 #[.val (.int p1), .val (.int (6 : Int32)), .val (.int (6 : Int32)), .val (.ref a_JOIN)] [])) _
      refine XS.iconst X358.here hx rfl (hb hby at_34) ?_
      show Steps p.tables e below (T358.setTop (mkF m 35 #[.val (.int p1), .val (.int (6 : Int32)), .val (.int (6 : Int32)), .val (.ref a_JOIN)] [(.int (1 : Int32))])) _
      refine XS.goto X358.here hx rfl (pc0 := 35) (pc' := 39) rfl (hb hby at_35) (by decide) (by decide) ?_
      show Steps p.tables e below (T358.setTop (mkF m 39 #[.val (.int p1), .val (.int (6 : Int32)), .val (.int (6 : Int32)), .val (.ref a_JOIN)] [(.int (1 : Int32))])) _
      exact k
    refine EndsQ.retN X358 hx Bd.notSynchronized (t := .boolean) Bd.returns (by simp) (hb hby at_39) (by decide) (by decide) ?_
    show Q0 Z p1 a_VALUES kA a_MEMBERS a_PULL a_STORE a_READ a_COUNT a_JOIN a_PING a_CATCH_UP a_HAND_OFF a_LOAD a_QUERY a_STATUS h0 n0 (some (.int (nar .boolean (1 : Int32)))) T358.heap _
    rw [eq358]
    exact ⟨rfl, N358⟩
  · subst hk7
    show EndsQ _ _ _ _ _ _ _ (s₁.setTop (mkF m 10 #[.val (.int p1), .val (.int (7 : Int32)), .unset, .unset] []))
    refine EndsQ.go (b := s₁.setTop (mkF m 12 #[.val (.int p1), .val (.int (7 : Int32)), .unset, .unset] [(.int ((7 : Int32).toInt8.toInt32))])) (fun t k => ?_) ?_
    · show Steps p.tables e below (s₁.setTop (mkF m 10 #[.val (.int p1), .val (.int (7 : Int32)), .unset, .unset] [])) _
      refine XS.iloadN X0.here hx rfl (hb hby at_10) rfl ?_
      show Steps p.tables e below (s₁.setTop (mkF m 11 #[.val (.int p1), .val (.int (7 : Int32)), .unset, .unset] [(.int (7 : Int32))])) _
      refine XS.i2b X0.here hx rfl (hb hby at_11) rfl ?_
      show Steps p.tables e below (s₁.setTop (mkF m 12 #[.val (.int p1), .val (.int (7 : Int32)), .unset, .unset] [(.int ((7 : Int32).toInt8.toInt32))])) _
      exact k
    rw [(by decide : ((7 : Int32).toInt8.toInt32) = (7 : Int32))]
    show EndsQ _ _ _ _ _ _ _ (s₁.setTop (mkF m 12 #[.val (.int p1), .val (.int (7 : Int32)), .unset, .unset] [(.int (7 : Int32))]))
    refine EndsQ.go (b := s₁.setTop (mkF m 14 #[.val (.int p1), .val (.int (7 : Int32)), .val (.int (7 : Int32)), .unset] [(.int (7 : Int32))])) (fun t k => ?_) ?_
    · show Steps p.tables e below (s₁.setTop (mkF m 12 #[.val (.int p1), .val (.int (7 : Int32)), .unset, .unset] [(.int (7 : Int32))])) _
      refine XS.istoreN X0.here hx rfl (hb hby at_12) rfl (l' := #[.val (.int p1), .val (.int (7 : Int32)), .val (.int (7 : Int32)), .unset]) rfl ?_
      show Steps p.tables e below (s₁.setTop (mkF m 13 #[.val (.int p1), .val (.int (7 : Int32)), .val (.int (7 : Int32)), .unset] [])) _
      refine XS.iloadN X0.here hx rfl (hb hby at_13) rfl ?_
      show Steps p.tables e below (s₁.setTop (mkF m 14 #[.val (.int p1), .val (.int (7 : Int32)), .val (.int (7 : Int32)), .unset] [(.int (7 : Int32))])) _
      exact k
    obtain ⟨_, _, ⟨T359, L359, kk359, nn359⟩, -, X359, ⟨Lc359, hQ359, l359, y359, z359⟩, st359⟩ := Jvm.LawKit.callS X0 hx (y := (⟨"com/example/chainmesh/chainmesh/Op", "of", "(B)Lcom/example/chainmesh/chainmesh/Op;"⟩ : MethodName)) hown (mvT hZ (hw _ (List.mem_of_getElem? (i := 1) rfl))) (mvT hZ (hw _ (List.mem_of_getElem? (i := 2) rfl))) (mvT hZ (hw _ (List.mem_of_getElem? (i := 3) rfl))) (mvT hZ (hw _ (List.mem_of_getElem? (i := 4) rfl))) (by decide) (backOf (W := 0) (rm1 l Z a0 hw [] (7 : Int32) a_VALUES kA a_MEMBERS a_PULL a_STORE a_READ a_COUNT a_JOIN a_PING a_CATCH_UP a_HAND_OFF a_LOAD a_QUERY a_STATUS h0 n0 Z0 S_VALUES V_VALUES X_VALUES F_MEMBERS_code F_PULL_code F_STORE_code F_READ_code F_COUNT_code F_JOIN_code F_PING_code F_CATCH_UP_code F_HAND_OFF_code F_LOAD_code F_QUERY_code F_STATUS_code (by decide)) hZ (hw _ (List.mem_of_getElem? (i := 4) rfl)) (hw _ (List.mem_of_getElem? (i := 3) rfl)) (by decide) (by decide)) (g := (mkF m 14 #[.val (.int p1), .val (.int (7 : Int32)), .val (.int (7 : Int32)), .unset] [(.int (7 : Int32))])) rfl (by rw [hml]; rfl) (argsL := [(.int (7 : Int32))]) (rest := []) (lenOf pd_1 rfl) rfl (by show 2 * 0 + _ ≤ _; exact Nat.le_of_eq rfl) (hb hby at_14) (fun _ _ => ⟨rfl, e0, (by decide : 0 + 1 ≤ _), (by decide : 0 + 12 ≤ _)⟩)
    dsimp only [Pt.U, Pt.locs, Pt.cells, Pt.slots] at X359 l359 y359 z359 st359 hQ359
    subst l359 y359 z359
    obtain ⟨rfl, Nq359, E359⟩ := hQ359
    have N359 := Fr.app N0 Nq359
    have f360 : Sta Z T359.heap "com/example/chainmesh/chainmesh/Op" "$VALUES" "[Lcom/example/chainmesh/chainmesh/Op;" (.ref a_VALUES) := S_VALUES.ext E359
    have f361 : Arv Z T359.heap a_VALUES kA (.object "com/example/chainmesh/chainmesh/Op") (12 : Int32) [(.ref a_MEMBERS), (.ref a_PULL), (.ref a_STORE), (.ref a_READ), (.ref a_COUNT), (.ref a_JOIN), (.ref a_PING), (.ref a_CATCH_UP), (.ref a_HAND_OFF), (.ref a_LOAD), (.ref a_QUERY), (.ref a_STATUS)] .null := V_VALUES.ext E359
    have f362 : Exa Z T359.heap a_VALUES "[Lcom/example/chainmesh/chainmesh/Op;" := X_VALUES.ext E359
    have f363 : Fld Z T359.heap a_MEMBERS "com/example/chainmesh/chainmesh/Op" "code" "B" (.int (1 : Int32)) := F_MEMBERS_code.ext E359
    have f364 : Fld Z T359.heap a_PULL "com/example/chainmesh/chainmesh/Op" "code" "B" (.int (2 : Int32)) := F_PULL_code.ext E359
    have f365 : Fld Z T359.heap a_STORE "com/example/chainmesh/chainmesh/Op" "code" "B" (.int (3 : Int32)) := F_STORE_code.ext E359
    have f366 : Fld Z T359.heap a_READ "com/example/chainmesh/chainmesh/Op" "code" "B" (.int (4 : Int32)) := F_READ_code.ext E359
    have f367 : Fld Z T359.heap a_COUNT "com/example/chainmesh/chainmesh/Op" "code" "B" (.int (5 : Int32)) := F_COUNT_code.ext E359
    have f368 : Fld Z T359.heap a_JOIN "com/example/chainmesh/chainmesh/Op" "code" "B" (.int (6 : Int32)) := F_JOIN_code.ext E359
    have f369 : Fld Z T359.heap a_PING "com/example/chainmesh/chainmesh/Op" "code" "B" (.int (7 : Int32)) := F_PING_code.ext E359
    have f370 : Fld Z T359.heap a_CATCH_UP "com/example/chainmesh/chainmesh/Op" "code" "B" (.int (8 : Int32)) := F_CATCH_UP_code.ext E359
    have f371 : Fld Z T359.heap a_HAND_OFF "com/example/chainmesh/chainmesh/Op" "code" "B" (.int (9 : Int32)) := F_HAND_OFF_code.ext E359
    have f372 : Fld Z T359.heap a_LOAD "com/example/chainmesh/chainmesh/Op" "code" "B" (.int (10 : Int32)) := F_LOAD_code.ext E359
    have f373 : Fld Z T359.heap a_QUERY "com/example/chainmesh/chainmesh/Op" "code" "B" (.int (11 : Int32)) := F_QUERY_code.ext E359
    have f374 : Fld Z T359.heap a_STATUS "com/example/chainmesh/chainmesh/Op" "code" "B" (.int (12 : Int32)) := F_STATUS_code.ext E359
    have f375 : Sta Z T359.heap "com/example/chainmesh/chainmesh/Op" "MEMBERS" "Lcom/example/chainmesh/chainmesh/Op;" (.ref a_MEMBERS) := S_MEMBERS.ext E359
    have f376 : Sta Z T359.heap "com/example/chainmesh/chainmesh/Op" "PULL" "Lcom/example/chainmesh/chainmesh/Op;" (.ref a_PULL) := S_PULL.ext E359
    have f377 : Sta Z T359.heap "com/example/chainmesh/chainmesh/Op" "STORE" "Lcom/example/chainmesh/chainmesh/Op;" (.ref a_STORE) := S_STORE.ext E359
    have f378 : Sta Z T359.heap "com/example/chainmesh/chainmesh/Op" "READ" "Lcom/example/chainmesh/chainmesh/Op;" (.ref a_READ) := S_READ.ext E359
    have f379 : Sta Z T359.heap "com/example/chainmesh/chainmesh/Op" "COUNT" "Lcom/example/chainmesh/chainmesh/Op;" (.ref a_COUNT) := S_COUNT.ext E359
    have f380 : Sta Z T359.heap "com/example/chainmesh/chainmesh/Op" "JOIN" "Lcom/example/chainmesh/chainmesh/Op;" (.ref a_JOIN) := S_JOIN.ext E359
    have f381 : Sta Z T359.heap "com/example/chainmesh/chainmesh/Op" "PING" "Lcom/example/chainmesh/chainmesh/Op;" (.ref a_PING) := S_PING.ext E359
    have f382 : Sta Z T359.heap "com/example/chainmesh/chainmesh/Op" "CATCH_UP" "Lcom/example/chainmesh/chainmesh/Op;" (.ref a_CATCH_UP) := S_CATCH_UP.ext E359
    have f383 : Sta Z T359.heap "com/example/chainmesh/chainmesh/Op" "HAND_OFF" "Lcom/example/chainmesh/chainmesh/Op;" (.ref a_HAND_OFF) := S_HAND_OFF.ext E359
    have f384 : Sta Z T359.heap "com/example/chainmesh/chainmesh/Op" "LOAD" "Lcom/example/chainmesh/chainmesh/Op;" (.ref a_LOAD) := S_LOAD.ext E359
    have f385 : Sta Z T359.heap "com/example/chainmesh/chainmesh/Op" "QUERY" "Lcom/example/chainmesh/chainmesh/Op;" (.ref a_QUERY) := S_QUERY.ext E359
    have f386 : Sta Z T359.heap "com/example/chainmesh/chainmesh/Op" "STATUS" "Lcom/example/chainmesh/chainmesh/Op;" (.ref a_STATUS) := S_STATUS.ext E359
    have f387 : Exa Z T359.heap a_MEMBERS "com/example/chainmesh/chainmesh/Op" := E_MEMBERS.ext E359
    have f388 : Exa Z T359.heap a_PULL "com/example/chainmesh/chainmesh/Op" := E_PULL.ext E359
    have f389 : Exa Z T359.heap a_STORE "com/example/chainmesh/chainmesh/Op" := E_STORE.ext E359
    have f390 : Exa Z T359.heap a_READ "com/example/chainmesh/chainmesh/Op" := E_READ.ext E359
    have f391 : Exa Z T359.heap a_COUNT "com/example/chainmesh/chainmesh/Op" := E_COUNT.ext E359
    have f392 : Exa Z T359.heap a_JOIN "com/example/chainmesh/chainmesh/Op" := E_JOIN.ext E359
    have f393 : Exa Z T359.heap a_PING "com/example/chainmesh/chainmesh/Op" := E_PING.ext E359
    have f394 : Exa Z T359.heap a_CATCH_UP "com/example/chainmesh/chainmesh/Op" := E_CATCH_UP.ext E359
    have f395 : Exa Z T359.heap a_HAND_OFF "com/example/chainmesh/chainmesh/Op" := E_HAND_OFF.ext E359
    have f396 : Exa Z T359.heap a_LOAD "com/example/chainmesh/chainmesh/Op" := E_LOAD.ext E359
    have f397 : Exa Z T359.heap a_QUERY "com/example/chainmesh/chainmesh/Op" := E_QUERY.ext E359
    have f398 : Exa Z T359.heap a_STATUS "com/example/chainmesh/chainmesh/Op" := E_STATUS.ext E359
    have f399 : n0 ≤ T359.heap.size := Nat.le_trans Z0 E359.1
    refine EndsQ.go st359 ?_
    show EndsQ _ _ _ _ _ _ _ (T359.setTop (mkF m 17 #[.val (.int p1), .val (.int (7 : Int32)), .val (.int (7 : Int32)), .unset] [(.ref (own_of (7 : Int32) a_MEMBERS a_PULL a_STORE a_READ a_COUNT a_JOIN a_PING a_CATCH_UP a_HAND_OFF a_LOAD a_QUERY a_STATUS))]))
    rw [(rfl : (own_of (7 : Int32) a_MEMBERS a_PULL a_STORE a_READ a_COUNT a_JOIN a_PING a_CATCH_UP a_HAND_OFF a_LOAD a_QUERY a_STATUS) = a_PING)]
    show EndsQ _ _ _ _ _ _ _ (T359.setTop (mkF m 17 #[.val (.int p1), .val (.int (7 : Int32)), .val (.int (7 : Int32)), .unset] [(.ref a_PING)]))
    refine EndsQ.go (b := T359.setTop (mkF m 20 #[.val (.int p1), .val (.int (7 : Int32)), .val (.int (7 : Int32)), .val (.ref a_PING)] [(.int (7 : Int32)), (.ref a_PING)])) (fun t k => ?_) ?_
    · show Steps p.tables e below (T359.setTop (mkF m 17 #[.val (.int p1), .val (.int (7 : Int32)), .val (.int (7 : Int32)), .unset] [(.ref a_PING)])) _
      refine XS.astoreN X359.here hx rfl (hb hby at_17) rfl rfl (l' := #[.val (.int p1), .val (.int (7 : Int32)), .val (.int (7 : Int32)), .val (.ref a_PING)]) rfl ?_
      show Steps p.tables e below (T359.setTop (mkF m 18 #[.val (.int p1), .val (.int (7 : Int32)), .val (.int (7 : Int32)), .val (.ref a_PING)] [])) _
      refine XS.aloadN X359.here hx rfl (hb hby at_18) rfl rfl ?_
      show Steps p.tables e below (T359.setTop (mkF m 19 #[.val (.int p1), .val (.int (7 : Int32)), .val (.int (7 : Int32)), .val (.ref a_PING)] [(.ref a_PING)])) _
      refine XS.iloadN X359.here hx rfl (hb hby at_19) rfl ?_
      show Steps p.tables e below (T359.setTop (mkF m 20 #[.val (.int p1), .val (.int (7 : Int32)), .val (.int (7 : Int32)), .val (.ref a_PING)] [(.int (7 : Int32)), (.ref a_PING)])) _
      exact k
    obtain ⟨_, _, ⟨T400, L400, kk400, nn400⟩, -, X400, ⟨Lc400, hQ400, l400, y400, z400⟩, st400⟩ := Jvm.LawKit.callS X359 hx (y := (⟨"com/example/chainmesh/chainmesh/OpOfPinLaw", "expected", "(I)Lcom/example/chainmesh/chainmesh/Op;"⟩ : MethodName)) hown (mvT hZ (hw _ (List.mem_of_getElem? (i := 34) rfl))) (mvT hZ (hw _ (List.mem_of_getElem? (i := 35) rfl))) (mvT hZ (hw _ (List.mem_of_getElem? (i := 36) rfl))) (mvT hZ (hw _ (List.mem_of_getElem? (i := 37) rfl))) (by decide) (backOf (W := 1) (rm3 l Z a0 hw [] (7 : Int32) a_MEMBERS a_PULL a_STORE a_READ a_COUNT a_JOIN a_PING a_CATCH_UP a_HAND_OFF a_LOAD a_QUERY a_STATUS T359.heap n0 f399 f375 f376 f377 f378 f379 f380 f381 f382 f383 f384 f385 f386) hZ (hw _ (List.mem_of_getElem? (i := 37) rfl)) (hw _ (List.mem_of_getElem? (i := 36) rfl)) (by decide) (by decide)) (g := (mkF m 20 #[.val (.int p1), .val (.int (7 : Int32)), .val (.int (7 : Int32)), .val (.ref a_PING)] [(.int (7 : Int32)), (.ref a_PING)])) rfl (by rw [hml]; rfl) (argsL := [(.int (7 : Int32))]) (rest := [(.ref a_PING)]) (lenOf pd_2 rfl) rfl (by show 2 * 0 + _ ≤ _; exact Nat.le_of_eq rfl) (hb hby at_20) (fun _ _ => ⟨rfl, rfl, (by decide : 1 + 0 ≤ _), (by decide : 12 + 0 ≤ _)⟩)
    dsimp only [Pt.U, Pt.locs, Pt.cells, Pt.slots] at X400 l400 y400 z400 st400 hQ400
    subst l400 y400 z400
    obtain ⟨rfl, Nq400, eq400⟩ := hQ400
    have N400 := Fr.app N359 Nq400
    refine EndsQ.go st400 ?_
    show EndsQ _ _ _ _ _ _ _ (T400.setTop (mkF m 23 #[.val (.int p1), .val (.int (7 : Int32)), .val (.int (7 : Int32)), .val (.ref a_PING)] [(.ref (own_exp (7 : Int32) a_MEMBERS a_PULL a_STORE a_READ a_COUNT a_JOIN a_PING a_CATCH_UP a_HAND_OFF a_LOAD a_QUERY a_STATUS)), (.ref a_PING)]))
    rw [(rfl : (own_exp (7 : Int32) a_MEMBERS a_PULL a_STORE a_READ a_COUNT a_JOIN a_PING a_CATCH_UP a_HAND_OFF a_LOAD a_QUERY a_STATUS) = a_PING)]
    show EndsQ _ _ _ _ _ _ _ (T400.setTop (mkF m 23 #[.val (.int p1), .val (.int (7 : Int32)), .val (.int (7 : Int32)), .val (.ref a_PING)] [(.ref a_PING), (.ref a_PING)]))
    refine EndsQ.go (b := T400.setTop (mkF m 27 #[.val (.int p1), .val (.int (7 : Int32)), .val (.int (7 : Int32)), .val (.ref a_PING)] [(.ref a_PING)])) (fun t k => ?_) ?_
    · show Steps p.tables e below (T400.setTop (mkF m 23 #[.val (.int p1), .val (.int (7 : Int32)), .val (.int (7 : Int32)), .val (.ref a_PING)] [(.ref a_PING), (.ref a_PING)])) _
      refine acmp X400 hx rfl (x := (.ref a_PING)) (y := (.ref a_PING)) rfl rfl (pc0 := 23) (pc' := 26) (same := true) rfl (hb hby at_23) rfl (by simp) (by decide) (by decide) ?_
      show Steps p.tables e below (T400.setTop (mkF m 26 #[.val (.int p1), .val (.int (7 : Int32)), .val (.int (7 : Int32)), .val (.ref a_PING)] [])) _
      refine XS.aloadN X400.here hx rfl (hb hby at_26) rfl rfl ?_
      show Steps p.tables e below (T400.setTop (mkF m 27 #[.val (.int p1), .val (.int (7 : Int32)), .val (.int (7 : Int32)), .val (.ref a_PING)] [(.ref a_PING)])) _
      exact k
    obtain ⟨cq401, kq401, qa401, qb401, qc401⟩ := isOf hZ eq400 f393
    obtain ⟨_, _, ⟨T401, L401, kk401, nn401⟩, -, X401, ⟨Lc401, hQ401, l401, y401, z401⟩, st401⟩ := X400.virtualBack hx (y := (⟨"com/example/chainmesh/chainmesh/Op", "code", "()B"⟩ : MethodName)) (z := (⟨"com/example/chainmesh/chainmesh/Op", "code", "()B"⟩ : MethodName)) hown (mvT hZ (hw _ (List.mem_of_getElem? (i := 39) rfl))) (mvT hZ (hw _ (List.mem_of_getElem? (i := 40) rfl))) (notFace_of_selects (args := #[]) (mvT hZ (hw _ (List.mem_of_getElem? (i := 42) rfl)))) (mvT hZ (hw _ (List.mem_of_getElem? (i := 42) rfl))) (mvT hZ (hw _ (List.mem_of_getElem? (i := 41) rfl))) (by decide) (backOf (W := 0) (rm4 l Z a0 hw [] a_PING (7 : Int32) T359.heap n0 f399 f369) hZ (hw _ (List.mem_of_getElem? (i := 43) rfl)) (hw _ (List.mem_of_getElem? (i := 3) rfl)) (by decide) (by decide)) qa401 qc401 (g := (mkF m 27 #[.val (.int p1), .val (.int (7 : Int32)), .val (.int (7 : Int32)), .val (.ref a_PING)] [(.ref a_PING)])) rfl (by rw [hml]; rfl) (Steps.refl _) (argsL := []) (rest := []) (lenOf pd_3 rfl) rfl (by show 2 * 0 + _ ≤ _; exact Nat.le_of_eq rfl) (hb hby at_27) (fun _ _ => ⟨rfl, eq400, (by decide : 1 + 0 ≤ _), (by decide : 12 + 0 ≤ _)⟩)
    dsimp only [Pt.U, Pt.locs, Pt.cells, Pt.slots] at X401 l401 y401 z401 st401 hQ401
    subst l401 y401 z401
    obtain ⟨rfl, Nq401, eq401⟩ := hQ401
    have N401 := Fr.app N400 Nq401
    refine EndsQ.go (fun t k => st401.trans k) ?_
    show EndsQ _ _ _ _ _ _ _ (T401.setTop (mkF m 30 #[.val (.int p1), .val (.int (7 : Int32)), .val (.int (7 : Int32)), .val (.ref a_PING)] [(.int (nar .byte (7 : Int32)))]))
    refine EndsQ.go (b := T401.setTop (mkF m 39 #[.val (.int p1), .val (.int (7 : Int32)), .val (.int (7 : Int32)), .val (.ref a_PING)] [(.int (1 : Int32))])) (fun t k => ?_) ?_
    · show Steps p.tables e below (T401.setTop (mkF m 30 #[.val (.int p1), .val (.int (7 : Int32)), .val (.int (7 : Int32)), .val (.ref a_PING)] [(.int (nar .byte (7 : Int32)))])) _
      refine XS.iloadN X401.here hx rfl (hb hby at_30) rfl ?_
      show Steps p.tables e below (T401.setTop (mkF m 31 #[.val (.int p1), .val (.int (7 : Int32)), .val (.int (7 : Int32)), .val (.ref a_PING)] [(.int (7 : Int32)), (.int (nar .byte (7 : Int32)))])) _
      refine XS.icmpNo X401.here hx rfl (hb hby at_31) rfl (teq (by decide)).2 ?_
      show Steps p.tables e below (T401.setTop (mkF m 34 #[.val (.int p1), .val (.int (7 : Int32)), .val (.int (7 : Int32)), .val (.ref a_PING)] [])) _
      refine XS.iconst X401.here hx rfl (hb hby at_34) ?_
      show Steps p.tables e below (T401.setTop (mkF m 35 #[.val (.int p1), .val (.int (7 : Int32)), .val (.int (7 : Int32)), .val (.ref a_PING)] [(.int (1 : Int32))])) _
      refine XS.goto X401.here hx rfl (pc0 := 35) (pc' := 39) rfl (hb hby at_35) (by decide) (by decide) ?_
      show Steps p.tables e below (T401.setTop (mkF m 39 #[.val (.int p1), .val (.int (7 : Int32)), .val (.int (7 : Int32)), .val (.ref a_PING)] [(.int (1 : Int32))])) _
      exact k
    refine EndsQ.retN X401 hx Bd.notSynchronized (t := .boolean) Bd.returns (by simp) (hb hby at_39) (by decide) (by decide) ?_
    show Q0 Z p1 a_VALUES kA a_MEMBERS a_PULL a_STORE a_READ a_COUNT a_JOIN a_PING a_CATCH_UP a_HAND_OFF a_LOAD a_QUERY a_STATUS h0 n0 (some (.int (nar .boolean (1 : Int32)))) T401.heap _
    rw [eq401]
    exact ⟨rfl, N401⟩
  · subst hk8
    show EndsQ _ _ _ _ _ _ _ (s₁.setTop (mkF m 10 #[.val (.int p1), .val (.int (8 : Int32)), .unset, .unset] []))
    refine EndsQ.go (b := s₁.setTop (mkF m 12 #[.val (.int p1), .val (.int (8 : Int32)), .unset, .unset] [(.int ((8 : Int32).toInt8.toInt32))])) (fun t k => ?_) ?_
    · show Steps p.tables e below (s₁.setTop (mkF m 10 #[.val (.int p1), .val (.int (8 : Int32)), .unset, .unset] [])) _
      refine XS.iloadN X0.here hx rfl (hb hby at_10) rfl ?_
      show Steps p.tables e below (s₁.setTop (mkF m 11 #[.val (.int p1), .val (.int (8 : Int32)), .unset, .unset] [(.int (8 : Int32))])) _
      refine XS.i2b X0.here hx rfl (hb hby at_11) rfl ?_
      show Steps p.tables e below (s₁.setTop (mkF m 12 #[.val (.int p1), .val (.int (8 : Int32)), .unset, .unset] [(.int ((8 : Int32).toInt8.toInt32))])) _
      exact k
    rw [(by decide : ((8 : Int32).toInt8.toInt32) = (8 : Int32))]
    show EndsQ _ _ _ _ _ _ _ (s₁.setTop (mkF m 12 #[.val (.int p1), .val (.int (8 : Int32)), .unset, .unset] [(.int (8 : Int32))]))
    refine EndsQ.go (b := s₁.setTop (mkF m 14 #[.val (.int p1), .val (.int (8 : Int32)), .val (.int (8 : Int32)), .unset] [(.int (8 : Int32))])) (fun t k => ?_) ?_
    · show Steps p.tables e below (s₁.setTop (mkF m 12 #[.val (.int p1), .val (.int (8 : Int32)), .unset, .unset] [(.int (8 : Int32))])) _
      refine XS.istoreN X0.here hx rfl (hb hby at_12) rfl (l' := #[.val (.int p1), .val (.int (8 : Int32)), .val (.int (8 : Int32)), .unset]) rfl ?_
      show Steps p.tables e below (s₁.setTop (mkF m 13 #[.val (.int p1), .val (.int (8 : Int32)), .val (.int (8 : Int32)), .unset] [])) _
      refine XS.iloadN X0.here hx rfl (hb hby at_13) rfl ?_
      show Steps p.tables e below (s₁.setTop (mkF m 14 #[.val (.int p1), .val (.int (8 : Int32)), .val (.int (8 : Int32)), .unset] [(.int (8 : Int32))])) _
      exact k
    obtain ⟨_, _, ⟨T402, L402, kk402, nn402⟩, -, X402, ⟨Lc402, hQ402, l402, y402, z402⟩, st402⟩ := Jvm.LawKit.callS X0 hx (y := (⟨"com/example/chainmesh/chainmesh/Op", "of", "(B)Lcom/example/chainmesh/chainmesh/Op;"⟩ : MethodName)) hown (mvT hZ (hw _ (List.mem_of_getElem? (i := 1) rfl))) (mvT hZ (hw _ (List.mem_of_getElem? (i := 2) rfl))) (mvT hZ (hw _ (List.mem_of_getElem? (i := 3) rfl))) (mvT hZ (hw _ (List.mem_of_getElem? (i := 4) rfl))) (by decide) (backOf (W := 0) (rm1 l Z a0 hw [] (8 : Int32) a_VALUES kA a_MEMBERS a_PULL a_STORE a_READ a_COUNT a_JOIN a_PING a_CATCH_UP a_HAND_OFF a_LOAD a_QUERY a_STATUS h0 n0 Z0 S_VALUES V_VALUES X_VALUES F_MEMBERS_code F_PULL_code F_STORE_code F_READ_code F_COUNT_code F_JOIN_code F_PING_code F_CATCH_UP_code F_HAND_OFF_code F_LOAD_code F_QUERY_code F_STATUS_code (by decide)) hZ (hw _ (List.mem_of_getElem? (i := 4) rfl)) (hw _ (List.mem_of_getElem? (i := 3) rfl)) (by decide) (by decide)) (g := (mkF m 14 #[.val (.int p1), .val (.int (8 : Int32)), .val (.int (8 : Int32)), .unset] [(.int (8 : Int32))])) rfl (by rw [hml]; rfl) (argsL := [(.int (8 : Int32))]) (rest := []) (lenOf pd_1 rfl) rfl (by show 2 * 0 + _ ≤ _; exact Nat.le_of_eq rfl) (hb hby at_14) (fun _ _ => ⟨rfl, e0, (by decide : 0 + 1 ≤ _), (by decide : 0 + 12 ≤ _)⟩)
    dsimp only [Pt.U, Pt.locs, Pt.cells, Pt.slots] at X402 l402 y402 z402 st402 hQ402
    subst l402 y402 z402
    obtain ⟨rfl, Nq402, E402⟩ := hQ402
    have N402 := Fr.app N0 Nq402
    have f403 : Sta Z T402.heap "com/example/chainmesh/chainmesh/Op" "$VALUES" "[Lcom/example/chainmesh/chainmesh/Op;" (.ref a_VALUES) := S_VALUES.ext E402
    have f404 : Arv Z T402.heap a_VALUES kA (.object "com/example/chainmesh/chainmesh/Op") (12 : Int32) [(.ref a_MEMBERS), (.ref a_PULL), (.ref a_STORE), (.ref a_READ), (.ref a_COUNT), (.ref a_JOIN), (.ref a_PING), (.ref a_CATCH_UP), (.ref a_HAND_OFF), (.ref a_LOAD), (.ref a_QUERY), (.ref a_STATUS)] .null := V_VALUES.ext E402
    have f405 : Exa Z T402.heap a_VALUES "[Lcom/example/chainmesh/chainmesh/Op;" := X_VALUES.ext E402
    have f406 : Fld Z T402.heap a_MEMBERS "com/example/chainmesh/chainmesh/Op" "code" "B" (.int (1 : Int32)) := F_MEMBERS_code.ext E402
    have f407 : Fld Z T402.heap a_PULL "com/example/chainmesh/chainmesh/Op" "code" "B" (.int (2 : Int32)) := F_PULL_code.ext E402
    have f408 : Fld Z T402.heap a_STORE "com/example/chainmesh/chainmesh/Op" "code" "B" (.int (3 : Int32)) := F_STORE_code.ext E402
    have f409 : Fld Z T402.heap a_READ "com/example/chainmesh/chainmesh/Op" "code" "B" (.int (4 : Int32)) := F_READ_code.ext E402
    have f410 : Fld Z T402.heap a_COUNT "com/example/chainmesh/chainmesh/Op" "code" "B" (.int (5 : Int32)) := F_COUNT_code.ext E402
    have f411 : Fld Z T402.heap a_JOIN "com/example/chainmesh/chainmesh/Op" "code" "B" (.int (6 : Int32)) := F_JOIN_code.ext E402
    have f412 : Fld Z T402.heap a_PING "com/example/chainmesh/chainmesh/Op" "code" "B" (.int (7 : Int32)) := F_PING_code.ext E402
    have f413 : Fld Z T402.heap a_CATCH_UP "com/example/chainmesh/chainmesh/Op" "code" "B" (.int (8 : Int32)) := F_CATCH_UP_code.ext E402
    have f414 : Fld Z T402.heap a_HAND_OFF "com/example/chainmesh/chainmesh/Op" "code" "B" (.int (9 : Int32)) := F_HAND_OFF_code.ext E402
    have f415 : Fld Z T402.heap a_LOAD "com/example/chainmesh/chainmesh/Op" "code" "B" (.int (10 : Int32)) := F_LOAD_code.ext E402
    have f416 : Fld Z T402.heap a_QUERY "com/example/chainmesh/chainmesh/Op" "code" "B" (.int (11 : Int32)) := F_QUERY_code.ext E402
    have f417 : Fld Z T402.heap a_STATUS "com/example/chainmesh/chainmesh/Op" "code" "B" (.int (12 : Int32)) := F_STATUS_code.ext E402
    have f418 : Sta Z T402.heap "com/example/chainmesh/chainmesh/Op" "MEMBERS" "Lcom/example/chainmesh/chainmesh/Op;" (.ref a_MEMBERS) := S_MEMBERS.ext E402
    have f419 : Sta Z T402.heap "com/example/chainmesh/chainmesh/Op" "PULL" "Lcom/example/chainmesh/chainmesh/Op;" (.ref a_PULL) := S_PULL.ext E402
    have f420 : Sta Z T402.heap "com/example/chainmesh/chainmesh/Op" "STORE" "Lcom/example/chainmesh/chainmesh/Op;" (.ref a_STORE) := S_STORE.ext E402
    have f421 : Sta Z T402.heap "com/example/chainmesh/chainmesh/Op" "READ" "Lcom/example/chainmesh/chainmesh/Op;" (.ref a_READ) := S_READ.ext E402
    have f422 : Sta Z T402.heap "com/example/chainmesh/chainmesh/Op" "COUNT" "Lcom/example/chainmesh/chainmesh/Op;" (.ref a_COUNT) := S_COUNT.ext E402
    have f423 : Sta Z T402.heap "com/example/chainmesh/chainmesh/Op" "JOIN" "Lcom/example/chainmesh/chainmesh/Op;" (.ref a_JOIN) := S_JOIN.ext E402
    have f424 : Sta Z T402.heap "com/example/chainmesh/chainmesh/Op" "PING" "Lcom/example/chainmesh/chainmesh/Op;" (.ref a_PING) := S_PING.ext E402
    have f425 : Sta Z T402.heap "com/example/chainmesh/chainmesh/Op" "CATCH_UP" "Lcom/example/chainmesh/chainmesh/Op;" (.ref a_CATCH_UP) := S_CATCH_UP.ext E402
    have f426 : Sta Z T402.heap "com/example/chainmesh/chainmesh/Op" "HAND_OFF" "Lcom/example/chainmesh/chainmesh/Op;" (.ref a_HAND_OFF) := S_HAND_OFF.ext E402
    have f427 : Sta Z T402.heap "com/example/chainmesh/chainmesh/Op" "LOAD" "Lcom/example/chainmesh/chainmesh/Op;" (.ref a_LOAD) := S_LOAD.ext E402
    have f428 : Sta Z T402.heap "com/example/chainmesh/chainmesh/Op" "QUERY" "Lcom/example/chainmesh/chainmesh/Op;" (.ref a_QUERY) := S_QUERY.ext E402
    have f429 : Sta Z T402.heap "com/example/chainmesh/chainmesh/Op" "STATUS" "Lcom/example/chainmesh/chainmesh/Op;" (.ref a_STATUS) := S_STATUS.ext E402
    have f430 : Exa Z T402.heap a_MEMBERS "com/example/chainmesh/chainmesh/Op" := E_MEMBERS.ext E402
    have f431 : Exa Z T402.heap a_PULL "com/example/chainmesh/chainmesh/Op" := E_PULL.ext E402
    have f432 : Exa Z T402.heap a_STORE "com/example/chainmesh/chainmesh/Op" := E_STORE.ext E402
    have f433 : Exa Z T402.heap a_READ "com/example/chainmesh/chainmesh/Op" := E_READ.ext E402
    have f434 : Exa Z T402.heap a_COUNT "com/example/chainmesh/chainmesh/Op" := E_COUNT.ext E402
    have f435 : Exa Z T402.heap a_JOIN "com/example/chainmesh/chainmesh/Op" := E_JOIN.ext E402
    have f436 : Exa Z T402.heap a_PING "com/example/chainmesh/chainmesh/Op" := E_PING.ext E402
    have f437 : Exa Z T402.heap a_CATCH_UP "com/example/chainmesh/chainmesh/Op" := E_CATCH_UP.ext E402
    have f438 : Exa Z T402.heap a_HAND_OFF "com/example/chainmesh/chainmesh/Op" := E_HAND_OFF.ext E402
    have f439 : Exa Z T402.heap a_LOAD "com/example/chainmesh/chainmesh/Op" := E_LOAD.ext E402
    have f440 : Exa Z T402.heap a_QUERY "com/example/chainmesh/chainmesh/Op" := E_QUERY.ext E402
    have f441 : Exa Z T402.heap a_STATUS "com/example/chainmesh/chainmesh/Op" := E_STATUS.ext E402
    have f442 : n0 ≤ T402.heap.size := Nat.le_trans Z0 E402.1
    refine EndsQ.go st402 ?_
    show EndsQ _ _ _ _ _ _ _ (T402.setTop (mkF m 17 #[.val (.int p1), .val (.int (8 : Int32)), .val (.int (8 : Int32)), .unset] [(.ref (own_of (8 : Int32) a_MEMBERS a_PULL a_STORE a_READ a_COUNT a_JOIN a_PING a_CATCH_UP a_HAND_OFF a_LOAD a_QUERY a_STATUS))]))
    rw [(rfl : (own_of (8 : Int32) a_MEMBERS a_PULL a_STORE a_READ a_COUNT a_JOIN a_PING a_CATCH_UP a_HAND_OFF a_LOAD a_QUERY a_STATUS) = a_CATCH_UP)]
    show EndsQ _ _ _ _ _ _ _ (T402.setTop (mkF m 17 #[.val (.int p1), .val (.int (8 : Int32)), .val (.int (8 : Int32)), .unset] [(.ref a_CATCH_UP)]))
    refine EndsQ.go (b := T402.setTop (mkF m 20 #[.val (.int p1), .val (.int (8 : Int32)), .val (.int (8 : Int32)), .val (.ref a_CATCH_UP)] [(.int (8 : Int32)), (.ref a_CATCH_UP)])) (fun t k => ?_) ?_
    · show Steps p.tables e below (T402.setTop (mkF m 17 #[.val (.int p1), .val (.int (8 : Int32)), .val (.int (8 : Int32)), .unset] [(.ref a_CATCH_UP)])) _
      refine XS.astoreN X402.here hx rfl (hb hby at_17) rfl rfl (l' := #[.val (.int p1), .val (.int (8 : Int32)), .val (.int (8 : Int32)), .val (.ref a_CATCH_UP)]) rfl ?_
      show Steps p.tables e below (T402.setTop (mkF m 18 #[.val (.int p1), .val (.int (8 : Int32)), .val (.int (8 : Int32)), .val (.ref a_CATCH_UP)] [])) _
      refine XS.aloadN X402.here hx rfl (hb hby at_18) rfl rfl ?_
      show Steps p.tables e below (T402.setTop (mkF m 19 #[.val (.int p1), .val (.int (8 : Int32)), .val (.int (8 : Int32)), .val (.ref a_CATCH_UP)] [(.ref a_CATCH_UP)])) _
      refine XS.iloadN X402.here hx rfl (hb hby at_19) rfl ?_
      show Steps p.tables e below (T402.setTop (mkF m 20 #[.val (.int p1), .val (.int (8 : Int32)), .val (.int (8 : Int32)), .val (.ref a_CATCH_UP)] [(.int (8 : Int32)), (.ref a_CATCH_UP)])) _
      exact k
    obtain ⟨_, _, ⟨T443, L443, kk443, nn443⟩, -, X443, ⟨Lc443, hQ443, l443, y443, z443⟩, st443⟩ := Jvm.LawKit.callS X402 hx (y := (⟨"com/example/chainmesh/chainmesh/OpOfPinLaw", "expected", "(I)Lcom/example/chainmesh/chainmesh/Op;"⟩ : MethodName)) hown (mvT hZ (hw _ (List.mem_of_getElem? (i := 34) rfl))) (mvT hZ (hw _ (List.mem_of_getElem? (i := 35) rfl))) (mvT hZ (hw _ (List.mem_of_getElem? (i := 36) rfl))) (mvT hZ (hw _ (List.mem_of_getElem? (i := 37) rfl))) (by decide) (backOf (W := 1) (rm3 l Z a0 hw [] (8 : Int32) a_MEMBERS a_PULL a_STORE a_READ a_COUNT a_JOIN a_PING a_CATCH_UP a_HAND_OFF a_LOAD a_QUERY a_STATUS T402.heap n0 f442 f418 f419 f420 f421 f422 f423 f424 f425 f426 f427 f428 f429) hZ (hw _ (List.mem_of_getElem? (i := 37) rfl)) (hw _ (List.mem_of_getElem? (i := 36) rfl)) (by decide) (by decide)) (g := (mkF m 20 #[.val (.int p1), .val (.int (8 : Int32)), .val (.int (8 : Int32)), .val (.ref a_CATCH_UP)] [(.int (8 : Int32)), (.ref a_CATCH_UP)])) rfl (by rw [hml]; rfl) (argsL := [(.int (8 : Int32))]) (rest := [(.ref a_CATCH_UP)]) (lenOf pd_2 rfl) rfl (by show 2 * 0 + _ ≤ _; exact Nat.le_of_eq rfl) (hb hby at_20) (fun _ _ => ⟨rfl, rfl, (by decide : 1 + 0 ≤ _), (by decide : 12 + 0 ≤ _)⟩)
    dsimp only [Pt.U, Pt.locs, Pt.cells, Pt.slots] at X443 l443 y443 z443 st443 hQ443
    subst l443 y443 z443
    obtain ⟨rfl, Nq443, eq443⟩ := hQ443
    have N443 := Fr.app N402 Nq443
    refine EndsQ.go st443 ?_
    show EndsQ _ _ _ _ _ _ _ (T443.setTop (mkF m 23 #[.val (.int p1), .val (.int (8 : Int32)), .val (.int (8 : Int32)), .val (.ref a_CATCH_UP)] [(.ref (own_exp (8 : Int32) a_MEMBERS a_PULL a_STORE a_READ a_COUNT a_JOIN a_PING a_CATCH_UP a_HAND_OFF a_LOAD a_QUERY a_STATUS)), (.ref a_CATCH_UP)]))
    rw [(rfl : (own_exp (8 : Int32) a_MEMBERS a_PULL a_STORE a_READ a_COUNT a_JOIN a_PING a_CATCH_UP a_HAND_OFF a_LOAD a_QUERY a_STATUS) = a_CATCH_UP)]
    show EndsQ _ _ _ _ _ _ _ (T443.setTop (mkF m 23 #[.val (.int p1), .val (.int (8 : Int32)), .val (.int (8 : Int32)), .val (.ref a_CATCH_UP)] [(.ref a_CATCH_UP), (.ref a_CATCH_UP)]))
    refine EndsQ.go (b := T443.setTop (mkF m 27 #[.val (.int p1), .val (.int (8 : Int32)), .val (.int (8 : Int32)), .val (.ref a_CATCH_UP)] [(.ref a_CATCH_UP)])) (fun t k => ?_) ?_
    · show Steps p.tables e below (T443.setTop (mkF m 23 #[.val (.int p1), .val (.int (8 : Int32)), .val (.int (8 : Int32)), .val (.ref a_CATCH_UP)] [(.ref a_CATCH_UP), (.ref a_CATCH_UP)])) _
      refine acmp X443 hx rfl (x := (.ref a_CATCH_UP)) (y := (.ref a_CATCH_UP)) rfl rfl (pc0 := 23) (pc' := 26) (same := true) rfl (hb hby at_23) rfl (by simp) (by decide) (by decide) ?_
      show Steps p.tables e below (T443.setTop (mkF m 26 #[.val (.int p1), .val (.int (8 : Int32)), .val (.int (8 : Int32)), .val (.ref a_CATCH_UP)] [])) _
      refine XS.aloadN X443.here hx rfl (hb hby at_26) rfl rfl ?_
      show Steps p.tables e below (T443.setTop (mkF m 27 #[.val (.int p1), .val (.int (8 : Int32)), .val (.int (8 : Int32)), .val (.ref a_CATCH_UP)] [(.ref a_CATCH_UP)])) _
      exact k
    obtain ⟨cq444, kq444, qa444, qb444, qc444⟩ := isOf hZ eq443 f437
    obtain ⟨_, _, ⟨T444, L444, kk444, nn444⟩, -, X444, ⟨Lc444, hQ444, l444, y444, z444⟩, st444⟩ := X443.virtualBack hx (y := (⟨"com/example/chainmesh/chainmesh/Op", "code", "()B"⟩ : MethodName)) (z := (⟨"com/example/chainmesh/chainmesh/Op", "code", "()B"⟩ : MethodName)) hown (mvT hZ (hw _ (List.mem_of_getElem? (i := 39) rfl))) (mvT hZ (hw _ (List.mem_of_getElem? (i := 40) rfl))) (notFace_of_selects (args := #[]) (mvT hZ (hw _ (List.mem_of_getElem? (i := 42) rfl)))) (mvT hZ (hw _ (List.mem_of_getElem? (i := 42) rfl))) (mvT hZ (hw _ (List.mem_of_getElem? (i := 41) rfl))) (by decide) (backOf (W := 0) (rm4 l Z a0 hw [] a_CATCH_UP (8 : Int32) T402.heap n0 f442 f413) hZ (hw _ (List.mem_of_getElem? (i := 43) rfl)) (hw _ (List.mem_of_getElem? (i := 3) rfl)) (by decide) (by decide)) qa444 qc444 (g := (mkF m 27 #[.val (.int p1), .val (.int (8 : Int32)), .val (.int (8 : Int32)), .val (.ref a_CATCH_UP)] [(.ref a_CATCH_UP)])) rfl (by rw [hml]; rfl) (Steps.refl _) (argsL := []) (rest := []) (lenOf pd_3 rfl) rfl (by show 2 * 0 + _ ≤ _; exact Nat.le_of_eq rfl) (hb hby at_27) (fun _ _ => ⟨rfl, eq443, (by decide : 1 + 0 ≤ _), (by decide : 12 + 0 ≤ _)⟩)
    dsimp only [Pt.U, Pt.locs, Pt.cells, Pt.slots] at X444 l444 y444 z444 st444 hQ444
    subst l444 y444 z444
    obtain ⟨rfl, Nq444, eq444⟩ := hQ444
    have N444 := Fr.app N443 Nq444
    refine EndsQ.go (fun t k => st444.trans k) ?_
    show EndsQ _ _ _ _ _ _ _ (T444.setTop (mkF m 30 #[.val (.int p1), .val (.int (8 : Int32)), .val (.int (8 : Int32)), .val (.ref a_CATCH_UP)] [(.int (nar .byte (8 : Int32)))]))
    refine EndsQ.go (b := T444.setTop (mkF m 39 #[.val (.int p1), .val (.int (8 : Int32)), .val (.int (8 : Int32)), .val (.ref a_CATCH_UP)] [(.int (1 : Int32))])) (fun t k => ?_) ?_
    · show Steps p.tables e below (T444.setTop (mkF m 30 #[.val (.int p1), .val (.int (8 : Int32)), .val (.int (8 : Int32)), .val (.ref a_CATCH_UP)] [(.int (nar .byte (8 : Int32)))])) _
      refine XS.iloadN X444.here hx rfl (hb hby at_30) rfl ?_
      show Steps p.tables e below (T444.setTop (mkF m 31 #[.val (.int p1), .val (.int (8 : Int32)), .val (.int (8 : Int32)), .val (.ref a_CATCH_UP)] [(.int (8 : Int32)), (.int (nar .byte (8 : Int32)))])) _
      refine XS.icmpNo X444.here hx rfl (hb hby at_31) rfl (teq (by decide)).2 ?_
      show Steps p.tables e below (T444.setTop (mkF m 34 #[.val (.int p1), .val (.int (8 : Int32)), .val (.int (8 : Int32)), .val (.ref a_CATCH_UP)] [])) _
      refine XS.iconst X444.here hx rfl (hb hby at_34) ?_
      show Steps p.tables e below (T444.setTop (mkF m 35 #[.val (.int p1), .val (.int (8 : Int32)), .val (.int (8 : Int32)), .val (.ref a_CATCH_UP)] [(.int (1 : Int32))])) _
      refine XS.goto X444.here hx rfl (pc0 := 35) (pc' := 39) rfl (hb hby at_35) (by decide) (by decide) ?_
      show Steps p.tables e below (T444.setTop (mkF m 39 #[.val (.int p1), .val (.int (8 : Int32)), .val (.int (8 : Int32)), .val (.ref a_CATCH_UP)] [(.int (1 : Int32))])) _
      exact k
    refine EndsQ.retN X444 hx Bd.notSynchronized (t := .boolean) Bd.returns (by simp) (hb hby at_39) (by decide) (by decide) ?_
    show Q0 Z p1 a_VALUES kA a_MEMBERS a_PULL a_STORE a_READ a_COUNT a_JOIN a_PING a_CATCH_UP a_HAND_OFF a_LOAD a_QUERY a_STATUS h0 n0 (some (.int (nar .boolean (1 : Int32)))) T444.heap _
    rw [eq444]
    exact ⟨rfl, N444⟩
  · subst hk9
    show EndsQ _ _ _ _ _ _ _ (s₁.setTop (mkF m 10 #[.val (.int p1), .val (.int (9 : Int32)), .unset, .unset] []))
    refine EndsQ.go (b := s₁.setTop (mkF m 12 #[.val (.int p1), .val (.int (9 : Int32)), .unset, .unset] [(.int ((9 : Int32).toInt8.toInt32))])) (fun t k => ?_) ?_
    · show Steps p.tables e below (s₁.setTop (mkF m 10 #[.val (.int p1), .val (.int (9 : Int32)), .unset, .unset] [])) _
      refine XS.iloadN X0.here hx rfl (hb hby at_10) rfl ?_
      show Steps p.tables e below (s₁.setTop (mkF m 11 #[.val (.int p1), .val (.int (9 : Int32)), .unset, .unset] [(.int (9 : Int32))])) _
      refine XS.i2b X0.here hx rfl (hb hby at_11) rfl ?_
      show Steps p.tables e below (s₁.setTop (mkF m 12 #[.val (.int p1), .val (.int (9 : Int32)), .unset, .unset] [(.int ((9 : Int32).toInt8.toInt32))])) _
      exact k
    rw [(by decide : ((9 : Int32).toInt8.toInt32) = (9 : Int32))]
    show EndsQ _ _ _ _ _ _ _ (s₁.setTop (mkF m 12 #[.val (.int p1), .val (.int (9 : Int32)), .unset, .unset] [(.int (9 : Int32))]))
    refine EndsQ.go (b := s₁.setTop (mkF m 14 #[.val (.int p1), .val (.int (9 : Int32)), .val (.int (9 : Int32)), .unset] [(.int (9 : Int32))])) (fun t k => ?_) ?_
    · show Steps p.tables e below (s₁.setTop (mkF m 12 #[.val (.int p1), .val (.int (9 : Int32)), .unset, .unset] [(.int (9 : Int32))])) _
      refine XS.istoreN X0.here hx rfl (hb hby at_12) rfl (l' := #[.val (.int p1), .val (.int (9 : Int32)), .val (.int (9 : Int32)), .unset]) rfl ?_
      show Steps p.tables e below (s₁.setTop (mkF m 13 #[.val (.int p1), .val (.int (9 : Int32)), .val (.int (9 : Int32)), .unset] [])) _
      refine XS.iloadN X0.here hx rfl (hb hby at_13) rfl ?_
      show Steps p.tables e below (s₁.setTop (mkF m 14 #[.val (.int p1), .val (.int (9 : Int32)), .val (.int (9 : Int32)), .unset] [(.int (9 : Int32))])) _
      exact k
    obtain ⟨_, _, ⟨T445, L445, kk445, nn445⟩, -, X445, ⟨Lc445, hQ445, l445, y445, z445⟩, st445⟩ := Jvm.LawKit.callS X0 hx (y := (⟨"com/example/chainmesh/chainmesh/Op", "of", "(B)Lcom/example/chainmesh/chainmesh/Op;"⟩ : MethodName)) hown (mvT hZ (hw _ (List.mem_of_getElem? (i := 1) rfl))) (mvT hZ (hw _ (List.mem_of_getElem? (i := 2) rfl))) (mvT hZ (hw _ (List.mem_of_getElem? (i := 3) rfl))) (mvT hZ (hw _ (List.mem_of_getElem? (i := 4) rfl))) (by decide) (backOf (W := 0) (rm1 l Z a0 hw [] (9 : Int32) a_VALUES kA a_MEMBERS a_PULL a_STORE a_READ a_COUNT a_JOIN a_PING a_CATCH_UP a_HAND_OFF a_LOAD a_QUERY a_STATUS h0 n0 Z0 S_VALUES V_VALUES X_VALUES F_MEMBERS_code F_PULL_code F_STORE_code F_READ_code F_COUNT_code F_JOIN_code F_PING_code F_CATCH_UP_code F_HAND_OFF_code F_LOAD_code F_QUERY_code F_STATUS_code (by decide)) hZ (hw _ (List.mem_of_getElem? (i := 4) rfl)) (hw _ (List.mem_of_getElem? (i := 3) rfl)) (by decide) (by decide)) (g := (mkF m 14 #[.val (.int p1), .val (.int (9 : Int32)), .val (.int (9 : Int32)), .unset] [(.int (9 : Int32))])) rfl (by rw [hml]; rfl) (argsL := [(.int (9 : Int32))]) (rest := []) (lenOf pd_1 rfl) rfl (by show 2 * 0 + _ ≤ _; exact Nat.le_of_eq rfl) (hb hby at_14) (fun _ _ => ⟨rfl, e0, (by decide : 0 + 1 ≤ _), (by decide : 0 + 12 ≤ _)⟩)
    dsimp only [Pt.U, Pt.locs, Pt.cells, Pt.slots] at X445 l445 y445 z445 st445 hQ445
    subst l445 y445 z445
    obtain ⟨rfl, Nq445, E445⟩ := hQ445
    have N445 := Fr.app N0 Nq445
    have f446 : Sta Z T445.heap "com/example/chainmesh/chainmesh/Op" "$VALUES" "[Lcom/example/chainmesh/chainmesh/Op;" (.ref a_VALUES) := S_VALUES.ext E445
    have f447 : Arv Z T445.heap a_VALUES kA (.object "com/example/chainmesh/chainmesh/Op") (12 : Int32) [(.ref a_MEMBERS), (.ref a_PULL), (.ref a_STORE), (.ref a_READ), (.ref a_COUNT), (.ref a_JOIN), (.ref a_PING), (.ref a_CATCH_UP), (.ref a_HAND_OFF), (.ref a_LOAD), (.ref a_QUERY), (.ref a_STATUS)] .null := V_VALUES.ext E445
    have f448 : Exa Z T445.heap a_VALUES "[Lcom/example/chainmesh/chainmesh/Op;" := X_VALUES.ext E445
    have f449 : Fld Z T445.heap a_MEMBERS "com/example/chainmesh/chainmesh/Op" "code" "B" (.int (1 : Int32)) := F_MEMBERS_code.ext E445
    have f450 : Fld Z T445.heap a_PULL "com/example/chainmesh/chainmesh/Op" "code" "B" (.int (2 : Int32)) := F_PULL_code.ext E445
    have f451 : Fld Z T445.heap a_STORE "com/example/chainmesh/chainmesh/Op" "code" "B" (.int (3 : Int32)) := F_STORE_code.ext E445
    have f452 : Fld Z T445.heap a_READ "com/example/chainmesh/chainmesh/Op" "code" "B" (.int (4 : Int32)) := F_READ_code.ext E445
    have f453 : Fld Z T445.heap a_COUNT "com/example/chainmesh/chainmesh/Op" "code" "B" (.int (5 : Int32)) := F_COUNT_code.ext E445
    have f454 : Fld Z T445.heap a_JOIN "com/example/chainmesh/chainmesh/Op" "code" "B" (.int (6 : Int32)) := F_JOIN_code.ext E445
    have f455 : Fld Z T445.heap a_PING "com/example/chainmesh/chainmesh/Op" "code" "B" (.int (7 : Int32)) := F_PING_code.ext E445
    have f456 : Fld Z T445.heap a_CATCH_UP "com/example/chainmesh/chainmesh/Op" "code" "B" (.int (8 : Int32)) := F_CATCH_UP_code.ext E445
    have f457 : Fld Z T445.heap a_HAND_OFF "com/example/chainmesh/chainmesh/Op" "code" "B" (.int (9 : Int32)) := F_HAND_OFF_code.ext E445
    have f458 : Fld Z T445.heap a_LOAD "com/example/chainmesh/chainmesh/Op" "code" "B" (.int (10 : Int32)) := F_LOAD_code.ext E445
    have f459 : Fld Z T445.heap a_QUERY "com/example/chainmesh/chainmesh/Op" "code" "B" (.int (11 : Int32)) := F_QUERY_code.ext E445
    have f460 : Fld Z T445.heap a_STATUS "com/example/chainmesh/chainmesh/Op" "code" "B" (.int (12 : Int32)) := F_STATUS_code.ext E445
    have f461 : Sta Z T445.heap "com/example/chainmesh/chainmesh/Op" "MEMBERS" "Lcom/example/chainmesh/chainmesh/Op;" (.ref a_MEMBERS) := S_MEMBERS.ext E445
    have f462 : Sta Z T445.heap "com/example/chainmesh/chainmesh/Op" "PULL" "Lcom/example/chainmesh/chainmesh/Op;" (.ref a_PULL) := S_PULL.ext E445
    have f463 : Sta Z T445.heap "com/example/chainmesh/chainmesh/Op" "STORE" "Lcom/example/chainmesh/chainmesh/Op;" (.ref a_STORE) := S_STORE.ext E445
    have f464 : Sta Z T445.heap "com/example/chainmesh/chainmesh/Op" "READ" "Lcom/example/chainmesh/chainmesh/Op;" (.ref a_READ) := S_READ.ext E445
    have f465 : Sta Z T445.heap "com/example/chainmesh/chainmesh/Op" "COUNT" "Lcom/example/chainmesh/chainmesh/Op;" (.ref a_COUNT) := S_COUNT.ext E445
    have f466 : Sta Z T445.heap "com/example/chainmesh/chainmesh/Op" "JOIN" "Lcom/example/chainmesh/chainmesh/Op;" (.ref a_JOIN) := S_JOIN.ext E445
    have f467 : Sta Z T445.heap "com/example/chainmesh/chainmesh/Op" "PING" "Lcom/example/chainmesh/chainmesh/Op;" (.ref a_PING) := S_PING.ext E445
    have f468 : Sta Z T445.heap "com/example/chainmesh/chainmesh/Op" "CATCH_UP" "Lcom/example/chainmesh/chainmesh/Op;" (.ref a_CATCH_UP) := S_CATCH_UP.ext E445
    have f469 : Sta Z T445.heap "com/example/chainmesh/chainmesh/Op" "HAND_OFF" "Lcom/example/chainmesh/chainmesh/Op;" (.ref a_HAND_OFF) := S_HAND_OFF.ext E445
    have f470 : Sta Z T445.heap "com/example/chainmesh/chainmesh/Op" "LOAD" "Lcom/example/chainmesh/chainmesh/Op;" (.ref a_LOAD) := S_LOAD.ext E445
    have f471 : Sta Z T445.heap "com/example/chainmesh/chainmesh/Op" "QUERY" "Lcom/example/chainmesh/chainmesh/Op;" (.ref a_QUERY) := S_QUERY.ext E445
    have f472 : Sta Z T445.heap "com/example/chainmesh/chainmesh/Op" "STATUS" "Lcom/example/chainmesh/chainmesh/Op;" (.ref a_STATUS) := S_STATUS.ext E445
    have f473 : Exa Z T445.heap a_MEMBERS "com/example/chainmesh/chainmesh/Op" := E_MEMBERS.ext E445
    have f474 : Exa Z T445.heap a_PULL "com/example/chainmesh/chainmesh/Op" := E_PULL.ext E445
    have f475 : Exa Z T445.heap a_STORE "com/example/chainmesh/chainmesh/Op" := E_STORE.ext E445
    have f476 : Exa Z T445.heap a_READ "com/example/chainmesh/chainmesh/Op" := E_READ.ext E445
    have f477 : Exa Z T445.heap a_COUNT "com/example/chainmesh/chainmesh/Op" := E_COUNT.ext E445
    have f478 : Exa Z T445.heap a_JOIN "com/example/chainmesh/chainmesh/Op" := E_JOIN.ext E445
    have f479 : Exa Z T445.heap a_PING "com/example/chainmesh/chainmesh/Op" := E_PING.ext E445
    have f480 : Exa Z T445.heap a_CATCH_UP "com/example/chainmesh/chainmesh/Op" := E_CATCH_UP.ext E445
    have f481 : Exa Z T445.heap a_HAND_OFF "com/example/chainmesh/chainmesh/Op" := E_HAND_OFF.ext E445
    have f482 : Exa Z T445.heap a_LOAD "com/example/chainmesh/chainmesh/Op" := E_LOAD.ext E445
    have f483 : Exa Z T445.heap a_QUERY "com/example/chainmesh/chainmesh/Op" := E_QUERY.ext E445
    have f484 : Exa Z T445.heap a_STATUS "com/example/chainmesh/chainmesh/Op" := E_STATUS.ext E445
    have f485 : n0 ≤ T445.heap.size := Nat.le_trans Z0 E445.1
    refine EndsQ.go st445 ?_
    show EndsQ _ _ _ _ _ _ _ (T445.setTop (mkF m 17 #[.val (.int p1), .val (.int (9 : Int32)), .val (.int (9 : Int32)), .unset] [(.ref (own_of (9 : Int32) a_MEMBERS a_PULL a_STORE a_READ a_COUNT a_JOIN a_PING a_CATCH_UP a_HAND_OFF a_LOAD a_QUERY a_STATUS))]))
    rw [(rfl : (own_of (9 : Int32) a_MEMBERS a_PULL a_STORE a_READ a_COUNT a_JOIN a_PING a_CATCH_UP a_HAND_OFF a_LOAD a_QUERY a_STATUS) = a_HAND_OFF)]
    show EndsQ _ _ _ _ _ _ _ (T445.setTop (mkF m 17 #[.val (.int p1), .val (.int (9 : Int32)), .val (.int (9 : Int32)), .unset] [(.ref a_HAND_OFF)]))
    refine EndsQ.go (b := T445.setTop (mkF m 20 #[.val (.int p1), .val (.int (9 : Int32)), .val (.int (9 : Int32)), .val (.ref a_HAND_OFF)] [(.int (9 : Int32)), (.ref a_HAND_OFF)])) (fun t k => ?_) ?_
    · show Steps p.tables e below (T445.setTop (mkF m 17 #[.val (.int p1), .val (.int (9 : Int32)), .val (.int (9 : Int32)), .unset] [(.ref a_HAND_OFF)])) _
      refine XS.astoreN X445.here hx rfl (hb hby at_17) rfl rfl (l' := #[.val (.int p1), .val (.int (9 : Int32)), .val (.int (9 : Int32)), .val (.ref a_HAND_OFF)]) rfl ?_
      show Steps p.tables e below (T445.setTop (mkF m 18 #[.val (.int p1), .val (.int (9 : Int32)), .val (.int (9 : Int32)), .val (.ref a_HAND_OFF)] [])) _
      refine XS.aloadN X445.here hx rfl (hb hby at_18) rfl rfl ?_
      show Steps p.tables e below (T445.setTop (mkF m 19 #[.val (.int p1), .val (.int (9 : Int32)), .val (.int (9 : Int32)), .val (.ref a_HAND_OFF)] [(.ref a_HAND_OFF)])) _
      refine XS.iloadN X445.here hx rfl (hb hby at_19) rfl ?_
      show Steps p.tables e below (T445.setTop (mkF m 20 #[.val (.int p1), .val (.int (9 : Int32)), .val (.int (9 : Int32)), .val (.ref a_HAND_OFF)] [(.int (9 : Int32)), (.ref a_HAND_OFF)])) _
      exact k
    obtain ⟨_, _, ⟨T486, L486, kk486, nn486⟩, -, X486, ⟨Lc486, hQ486, l486, y486, z486⟩, st486⟩ := Jvm.LawKit.callS X445 hx (y := (⟨"com/example/chainmesh/chainmesh/OpOfPinLaw", "expected", "(I)Lcom/example/chainmesh/chainmesh/Op;"⟩ : MethodName)) hown (mvT hZ (hw _ (List.mem_of_getElem? (i := 34) rfl))) (mvT hZ (hw _ (List.mem_of_getElem? (i := 35) rfl))) (mvT hZ (hw _ (List.mem_of_getElem? (i := 36) rfl))) (mvT hZ (hw _ (List.mem_of_getElem? (i := 37) rfl))) (by decide) (backOf (W := 1) (rm3 l Z a0 hw [] (9 : Int32) a_MEMBERS a_PULL a_STORE a_READ a_COUNT a_JOIN a_PING a_CATCH_UP a_HAND_OFF a_LOAD a_QUERY a_STATUS T445.heap n0 f485 f461 f462 f463 f464 f465 f466 f467 f468 f469 f470 f471 f472) hZ (hw _ (List.mem_of_getElem? (i := 37) rfl)) (hw _ (List.mem_of_getElem? (i := 36) rfl)) (by decide) (by decide)) (g := (mkF m 20 #[.val (.int p1), .val (.int (9 : Int32)), .val (.int (9 : Int32)), .val (.ref a_HAND_OFF)] [(.int (9 : Int32)), (.ref a_HAND_OFF)])) rfl (by rw [hml]; rfl) (argsL := [(.int (9 : Int32))]) (rest := [(.ref a_HAND_OFF)]) (lenOf pd_2 rfl) rfl (by show 2 * 0 + _ ≤ _; exact Nat.le_of_eq rfl) (hb hby at_20) (fun _ _ => ⟨rfl, rfl, (by decide : 1 + 0 ≤ _), (by decide : 12 + 0 ≤ _)⟩)
    dsimp only [Pt.U, Pt.locs, Pt.cells, Pt.slots] at X486 l486 y486 z486 st486 hQ486
    subst l486 y486 z486
    obtain ⟨rfl, Nq486, eq486⟩ := hQ486
    have N486 := Fr.app N445 Nq486
    refine EndsQ.go st486 ?_
    show EndsQ _ _ _ _ _ _ _ (T486.setTop (mkF m 23 #[.val (.int p1), .val (.int (9 : Int32)), .val (.int (9 : Int32)), .val (.ref a_HAND_OFF)] [(.ref (own_exp (9 : Int32) a_MEMBERS a_PULL a_STORE a_READ a_COUNT a_JOIN a_PING a_CATCH_UP a_HAND_OFF a_LOAD a_QUERY a_STATUS)), (.ref a_HAND_OFF)]))
    rw [(rfl : (own_exp (9 : Int32) a_MEMBERS a_PULL a_STORE a_READ a_COUNT a_JOIN a_PING a_CATCH_UP a_HAND_OFF a_LOAD a_QUERY a_STATUS) = a_HAND_OFF)]
    show EndsQ _ _ _ _ _ _ _ (T486.setTop (mkF m 23 #[.val (.int p1), .val (.int (9 : Int32)), .val (.int (9 : Int32)), .val (.ref a_HAND_OFF)] [(.ref a_HAND_OFF), (.ref a_HAND_OFF)]))
    refine EndsQ.go (b := T486.setTop (mkF m 27 #[.val (.int p1), .val (.int (9 : Int32)), .val (.int (9 : Int32)), .val (.ref a_HAND_OFF)] [(.ref a_HAND_OFF)])) (fun t k => ?_) ?_
    · show Steps p.tables e below (T486.setTop (mkF m 23 #[.val (.int p1), .val (.int (9 : Int32)), .val (.int (9 : Int32)), .val (.ref a_HAND_OFF)] [(.ref a_HAND_OFF), (.ref a_HAND_OFF)])) _
      refine acmp X486 hx rfl (x := (.ref a_HAND_OFF)) (y := (.ref a_HAND_OFF)) rfl rfl (pc0 := 23) (pc' := 26) (same := true) rfl (hb hby at_23) rfl (by simp) (by decide) (by decide) ?_
      show Steps p.tables e below (T486.setTop (mkF m 26 #[.val (.int p1), .val (.int (9 : Int32)), .val (.int (9 : Int32)), .val (.ref a_HAND_OFF)] [])) _
      refine XS.aloadN X486.here hx rfl (hb hby at_26) rfl rfl ?_
      show Steps p.tables e below (T486.setTop (mkF m 27 #[.val (.int p1), .val (.int (9 : Int32)), .val (.int (9 : Int32)), .val (.ref a_HAND_OFF)] [(.ref a_HAND_OFF)])) _
      exact k
    obtain ⟨cq487, kq487, qa487, qb487, qc487⟩ := isOf hZ eq486 f481
    obtain ⟨_, _, ⟨T487, L487, kk487, nn487⟩, -, X487, ⟨Lc487, hQ487, l487, y487, z487⟩, st487⟩ := X486.virtualBack hx (y := (⟨"com/example/chainmesh/chainmesh/Op", "code", "()B"⟩ : MethodName)) (z := (⟨"com/example/chainmesh/chainmesh/Op", "code", "()B"⟩ : MethodName)) hown (mvT hZ (hw _ (List.mem_of_getElem? (i := 39) rfl))) (mvT hZ (hw _ (List.mem_of_getElem? (i := 40) rfl))) (notFace_of_selects (args := #[]) (mvT hZ (hw _ (List.mem_of_getElem? (i := 42) rfl)))) (mvT hZ (hw _ (List.mem_of_getElem? (i := 42) rfl))) (mvT hZ (hw _ (List.mem_of_getElem? (i := 41) rfl))) (by decide) (backOf (W := 0) (rm4 l Z a0 hw [] a_HAND_OFF (9 : Int32) T445.heap n0 f485 f457) hZ (hw _ (List.mem_of_getElem? (i := 43) rfl)) (hw _ (List.mem_of_getElem? (i := 3) rfl)) (by decide) (by decide)) qa487 qc487 (g := (mkF m 27 #[.val (.int p1), .val (.int (9 : Int32)), .val (.int (9 : Int32)), .val (.ref a_HAND_OFF)] [(.ref a_HAND_OFF)])) rfl (by rw [hml]; rfl) (Steps.refl _) (argsL := []) (rest := []) (lenOf pd_3 rfl) rfl (by show 2 * 0 + _ ≤ _; exact Nat.le_of_eq rfl) (hb hby at_27) (fun _ _ => ⟨rfl, eq486, (by decide : 1 + 0 ≤ _), (by decide : 12 + 0 ≤ _)⟩)
    dsimp only [Pt.U, Pt.locs, Pt.cells, Pt.slots] at X487 l487 y487 z487 st487 hQ487
    subst l487 y487 z487
    obtain ⟨rfl, Nq487, eq487⟩ := hQ487
    have N487 := Fr.app N486 Nq487
    refine EndsQ.go (fun t k => st487.trans k) ?_
    show EndsQ _ _ _ _ _ _ _ (T487.setTop (mkF m 30 #[.val (.int p1), .val (.int (9 : Int32)), .val (.int (9 : Int32)), .val (.ref a_HAND_OFF)] [(.int (nar .byte (9 : Int32)))]))
    refine EndsQ.go (b := T487.setTop (mkF m 39 #[.val (.int p1), .val (.int (9 : Int32)), .val (.int (9 : Int32)), .val (.ref a_HAND_OFF)] [(.int (1 : Int32))])) (fun t k => ?_) ?_
    · show Steps p.tables e below (T487.setTop (mkF m 30 #[.val (.int p1), .val (.int (9 : Int32)), .val (.int (9 : Int32)), .val (.ref a_HAND_OFF)] [(.int (nar .byte (9 : Int32)))])) _
      refine XS.iloadN X487.here hx rfl (hb hby at_30) rfl ?_
      show Steps p.tables e below (T487.setTop (mkF m 31 #[.val (.int p1), .val (.int (9 : Int32)), .val (.int (9 : Int32)), .val (.ref a_HAND_OFF)] [(.int (9 : Int32)), (.int (nar .byte (9 : Int32)))])) _
      refine XS.icmpNo X487.here hx rfl (hb hby at_31) rfl (teq (by decide)).2 ?_
      show Steps p.tables e below (T487.setTop (mkF m 34 #[.val (.int p1), .val (.int (9 : Int32)), .val (.int (9 : Int32)), .val (.ref a_HAND_OFF)] [])) _
      refine XS.iconst X487.here hx rfl (hb hby at_34) ?_
      show Steps p.tables e below (T487.setTop (mkF m 35 #[.val (.int p1), .val (.int (9 : Int32)), .val (.int (9 : Int32)), .val (.ref a_HAND_OFF)] [(.int (1 : Int32))])) _
      refine XS.goto X487.here hx rfl (pc0 := 35) (pc' := 39) rfl (hb hby at_35) (by decide) (by decide) ?_
      show Steps p.tables e below (T487.setTop (mkF m 39 #[.val (.int p1), .val (.int (9 : Int32)), .val (.int (9 : Int32)), .val (.ref a_HAND_OFF)] [(.int (1 : Int32))])) _
      exact k
    refine EndsQ.retN X487 hx Bd.notSynchronized (t := .boolean) Bd.returns (by simp) (hb hby at_39) (by decide) (by decide) ?_
    show Q0 Z p1 a_VALUES kA a_MEMBERS a_PULL a_STORE a_READ a_COUNT a_JOIN a_PING a_CATCH_UP a_HAND_OFF a_LOAD a_QUERY a_STATUS h0 n0 (some (.int (nar .boolean (1 : Int32)))) T487.heap _
    rw [eq487]
    exact ⟨rfl, N487⟩
  · subst hk10
    show EndsQ _ _ _ _ _ _ _ (s₁.setTop (mkF m 10 #[.val (.int p1), .val (.int (10 : Int32)), .unset, .unset] []))
    refine EndsQ.go (b := s₁.setTop (mkF m 12 #[.val (.int p1), .val (.int (10 : Int32)), .unset, .unset] [(.int ((10 : Int32).toInt8.toInt32))])) (fun t k => ?_) ?_
    · show Steps p.tables e below (s₁.setTop (mkF m 10 #[.val (.int p1), .val (.int (10 : Int32)), .unset, .unset] [])) _
      refine XS.iloadN X0.here hx rfl (hb hby at_10) rfl ?_
      show Steps p.tables e below (s₁.setTop (mkF m 11 #[.val (.int p1), .val (.int (10 : Int32)), .unset, .unset] [(.int (10 : Int32))])) _
      refine XS.i2b X0.here hx rfl (hb hby at_11) rfl ?_
      show Steps p.tables e below (s₁.setTop (mkF m 12 #[.val (.int p1), .val (.int (10 : Int32)), .unset, .unset] [(.int ((10 : Int32).toInt8.toInt32))])) _
      exact k
    rw [(by decide : ((10 : Int32).toInt8.toInt32) = (10 : Int32))]
    show EndsQ _ _ _ _ _ _ _ (s₁.setTop (mkF m 12 #[.val (.int p1), .val (.int (10 : Int32)), .unset, .unset] [(.int (10 : Int32))]))
    refine EndsQ.go (b := s₁.setTop (mkF m 14 #[.val (.int p1), .val (.int (10 : Int32)), .val (.int (10 : Int32)), .unset] [(.int (10 : Int32))])) (fun t k => ?_) ?_
    · show Steps p.tables e below (s₁.setTop (mkF m 12 #[.val (.int p1), .val (.int (10 : Int32)), .unset, .unset] [(.int (10 : Int32))])) _
      refine XS.istoreN X0.here hx rfl (hb hby at_12) rfl (l' := #[.val (.int p1), .val (.int (10 : Int32)), .val (.int (10 : Int32)), .unset]) rfl ?_
      show Steps p.tables e below (s₁.setTop (mkF m 13 #[.val (.int p1), .val (.int (10 : Int32)), .val (.int (10 : Int32)), .unset] [])) _
      refine XS.iloadN X0.here hx rfl (hb hby at_13) rfl ?_
      show Steps p.tables e below (s₁.setTop (mkF m 14 #[.val (.int p1), .val (.int (10 : Int32)), .val (.int (10 : Int32)), .unset] [(.int (10 : Int32))])) _
      exact k
    obtain ⟨_, _, ⟨T488, L488, kk488, nn488⟩, -, X488, ⟨Lc488, hQ488, l488, y488, z488⟩, st488⟩ := Jvm.LawKit.callS X0 hx (y := (⟨"com/example/chainmesh/chainmesh/Op", "of", "(B)Lcom/example/chainmesh/chainmesh/Op;"⟩ : MethodName)) hown (mvT hZ (hw _ (List.mem_of_getElem? (i := 1) rfl))) (mvT hZ (hw _ (List.mem_of_getElem? (i := 2) rfl))) (mvT hZ (hw _ (List.mem_of_getElem? (i := 3) rfl))) (mvT hZ (hw _ (List.mem_of_getElem? (i := 4) rfl))) (by decide) (backOf (W := 0) (rm1 l Z a0 hw [] (10 : Int32) a_VALUES kA a_MEMBERS a_PULL a_STORE a_READ a_COUNT a_JOIN a_PING a_CATCH_UP a_HAND_OFF a_LOAD a_QUERY a_STATUS h0 n0 Z0 S_VALUES V_VALUES X_VALUES F_MEMBERS_code F_PULL_code F_STORE_code F_READ_code F_COUNT_code F_JOIN_code F_PING_code F_CATCH_UP_code F_HAND_OFF_code F_LOAD_code F_QUERY_code F_STATUS_code (by decide)) hZ (hw _ (List.mem_of_getElem? (i := 4) rfl)) (hw _ (List.mem_of_getElem? (i := 3) rfl)) (by decide) (by decide)) (g := (mkF m 14 #[.val (.int p1), .val (.int (10 : Int32)), .val (.int (10 : Int32)), .unset] [(.int (10 : Int32))])) rfl (by rw [hml]; rfl) (argsL := [(.int (10 : Int32))]) (rest := []) (lenOf pd_1 rfl) rfl (by show 2 * 0 + _ ≤ _; exact Nat.le_of_eq rfl) (hb hby at_14) (fun _ _ => ⟨rfl, e0, (by decide : 0 + 1 ≤ _), (by decide : 0 + 12 ≤ _)⟩)
    dsimp only [Pt.U, Pt.locs, Pt.cells, Pt.slots] at X488 l488 y488 z488 st488 hQ488
    subst l488 y488 z488
    obtain ⟨rfl, Nq488, E488⟩ := hQ488
    have N488 := Fr.app N0 Nq488
    have f489 : Sta Z T488.heap "com/example/chainmesh/chainmesh/Op" "$VALUES" "[Lcom/example/chainmesh/chainmesh/Op;" (.ref a_VALUES) := S_VALUES.ext E488
    have f490 : Arv Z T488.heap a_VALUES kA (.object "com/example/chainmesh/chainmesh/Op") (12 : Int32) [(.ref a_MEMBERS), (.ref a_PULL), (.ref a_STORE), (.ref a_READ), (.ref a_COUNT), (.ref a_JOIN), (.ref a_PING), (.ref a_CATCH_UP), (.ref a_HAND_OFF), (.ref a_LOAD), (.ref a_QUERY), (.ref a_STATUS)] .null := V_VALUES.ext E488
    have f491 : Exa Z T488.heap a_VALUES "[Lcom/example/chainmesh/chainmesh/Op;" := X_VALUES.ext E488
    have f492 : Fld Z T488.heap a_MEMBERS "com/example/chainmesh/chainmesh/Op" "code" "B" (.int (1 : Int32)) := F_MEMBERS_code.ext E488
    have f493 : Fld Z T488.heap a_PULL "com/example/chainmesh/chainmesh/Op" "code" "B" (.int (2 : Int32)) := F_PULL_code.ext E488
    have f494 : Fld Z T488.heap a_STORE "com/example/chainmesh/chainmesh/Op" "code" "B" (.int (3 : Int32)) := F_STORE_code.ext E488
    have f495 : Fld Z T488.heap a_READ "com/example/chainmesh/chainmesh/Op" "code" "B" (.int (4 : Int32)) := F_READ_code.ext E488
    have f496 : Fld Z T488.heap a_COUNT "com/example/chainmesh/chainmesh/Op" "code" "B" (.int (5 : Int32)) := F_COUNT_code.ext E488
    have f497 : Fld Z T488.heap a_JOIN "com/example/chainmesh/chainmesh/Op" "code" "B" (.int (6 : Int32)) := F_JOIN_code.ext E488
    have f498 : Fld Z T488.heap a_PING "com/example/chainmesh/chainmesh/Op" "code" "B" (.int (7 : Int32)) := F_PING_code.ext E488
    have f499 : Fld Z T488.heap a_CATCH_UP "com/example/chainmesh/chainmesh/Op" "code" "B" (.int (8 : Int32)) := F_CATCH_UP_code.ext E488
    have f500 : Fld Z T488.heap a_HAND_OFF "com/example/chainmesh/chainmesh/Op" "code" "B" (.int (9 : Int32)) := F_HAND_OFF_code.ext E488
    have f501 : Fld Z T488.heap a_LOAD "com/example/chainmesh/chainmesh/Op" "code" "B" (.int (10 : Int32)) := F_LOAD_code.ext E488
    have f502 : Fld Z T488.heap a_QUERY "com/example/chainmesh/chainmesh/Op" "code" "B" (.int (11 : Int32)) := F_QUERY_code.ext E488
    have f503 : Fld Z T488.heap a_STATUS "com/example/chainmesh/chainmesh/Op" "code" "B" (.int (12 : Int32)) := F_STATUS_code.ext E488
    have f504 : Sta Z T488.heap "com/example/chainmesh/chainmesh/Op" "MEMBERS" "Lcom/example/chainmesh/chainmesh/Op;" (.ref a_MEMBERS) := S_MEMBERS.ext E488
    have f505 : Sta Z T488.heap "com/example/chainmesh/chainmesh/Op" "PULL" "Lcom/example/chainmesh/chainmesh/Op;" (.ref a_PULL) := S_PULL.ext E488
    have f506 : Sta Z T488.heap "com/example/chainmesh/chainmesh/Op" "STORE" "Lcom/example/chainmesh/chainmesh/Op;" (.ref a_STORE) := S_STORE.ext E488
    have f507 : Sta Z T488.heap "com/example/chainmesh/chainmesh/Op" "READ" "Lcom/example/chainmesh/chainmesh/Op;" (.ref a_READ) := S_READ.ext E488
    have f508 : Sta Z T488.heap "com/example/chainmesh/chainmesh/Op" "COUNT" "Lcom/example/chainmesh/chainmesh/Op;" (.ref a_COUNT) := S_COUNT.ext E488
    have f509 : Sta Z T488.heap "com/example/chainmesh/chainmesh/Op" "JOIN" "Lcom/example/chainmesh/chainmesh/Op;" (.ref a_JOIN) := S_JOIN.ext E488
    have f510 : Sta Z T488.heap "com/example/chainmesh/chainmesh/Op" "PING" "Lcom/example/chainmesh/chainmesh/Op;" (.ref a_PING) := S_PING.ext E488
    have f511 : Sta Z T488.heap "com/example/chainmesh/chainmesh/Op" "CATCH_UP" "Lcom/example/chainmesh/chainmesh/Op;" (.ref a_CATCH_UP) := S_CATCH_UP.ext E488
    have f512 : Sta Z T488.heap "com/example/chainmesh/chainmesh/Op" "HAND_OFF" "Lcom/example/chainmesh/chainmesh/Op;" (.ref a_HAND_OFF) := S_HAND_OFF.ext E488
    have f513 : Sta Z T488.heap "com/example/chainmesh/chainmesh/Op" "LOAD" "Lcom/example/chainmesh/chainmesh/Op;" (.ref a_LOAD) := S_LOAD.ext E488
    have f514 : Sta Z T488.heap "com/example/chainmesh/chainmesh/Op" "QUERY" "Lcom/example/chainmesh/chainmesh/Op;" (.ref a_QUERY) := S_QUERY.ext E488
    have f515 : Sta Z T488.heap "com/example/chainmesh/chainmesh/Op" "STATUS" "Lcom/example/chainmesh/chainmesh/Op;" (.ref a_STATUS) := S_STATUS.ext E488
    have f516 : Exa Z T488.heap a_MEMBERS "com/example/chainmesh/chainmesh/Op" := E_MEMBERS.ext E488
    have f517 : Exa Z T488.heap a_PULL "com/example/chainmesh/chainmesh/Op" := E_PULL.ext E488
    have f518 : Exa Z T488.heap a_STORE "com/example/chainmesh/chainmesh/Op" := E_STORE.ext E488
    have f519 : Exa Z T488.heap a_READ "com/example/chainmesh/chainmesh/Op" := E_READ.ext E488
    have f520 : Exa Z T488.heap a_COUNT "com/example/chainmesh/chainmesh/Op" := E_COUNT.ext E488
    have f521 : Exa Z T488.heap a_JOIN "com/example/chainmesh/chainmesh/Op" := E_JOIN.ext E488
    have f522 : Exa Z T488.heap a_PING "com/example/chainmesh/chainmesh/Op" := E_PING.ext E488
    have f523 : Exa Z T488.heap a_CATCH_UP "com/example/chainmesh/chainmesh/Op" := E_CATCH_UP.ext E488
    have f524 : Exa Z T488.heap a_HAND_OFF "com/example/chainmesh/chainmesh/Op" := E_HAND_OFF.ext E488
    have f525 : Exa Z T488.heap a_LOAD "com/example/chainmesh/chainmesh/Op" := E_LOAD.ext E488
    have f526 : Exa Z T488.heap a_QUERY "com/example/chainmesh/chainmesh/Op" := E_QUERY.ext E488
    have f527 : Exa Z T488.heap a_STATUS "com/example/chainmesh/chainmesh/Op" := E_STATUS.ext E488
    have f528 : n0 ≤ T488.heap.size := Nat.le_trans Z0 E488.1
    refine EndsQ.go st488 ?_
    show EndsQ _ _ _ _ _ _ _ (T488.setTop (mkF m 17 #[.val (.int p1), .val (.int (10 : Int32)), .val (.int (10 : Int32)), .unset] [(.ref (own_of (10 : Int32) a_MEMBERS a_PULL a_STORE a_READ a_COUNT a_JOIN a_PING a_CATCH_UP a_HAND_OFF a_LOAD a_QUERY a_STATUS))]))
    rw [(rfl : (own_of (10 : Int32) a_MEMBERS a_PULL a_STORE a_READ a_COUNT a_JOIN a_PING a_CATCH_UP a_HAND_OFF a_LOAD a_QUERY a_STATUS) = a_LOAD)]
    show EndsQ _ _ _ _ _ _ _ (T488.setTop (mkF m 17 #[.val (.int p1), .val (.int (10 : Int32)), .val (.int (10 : Int32)), .unset] [(.ref a_LOAD)]))
    refine EndsQ.go (b := T488.setTop (mkF m 20 #[.val (.int p1), .val (.int (10 : Int32)), .val (.int (10 : Int32)), .val (.ref a_LOAD)] [(.int (10 : Int32)), (.ref a_LOAD)])) (fun t k => ?_) ?_
    · show Steps p.tables e below (T488.setTop (mkF m 17 #[.val (.int p1), .val (.int (10 : Int32)), .val (.int (10 : Int32)), .unset] [(.ref a_LOAD)])) _
      refine XS.astoreN X488.here hx rfl (hb hby at_17) rfl rfl (l' := #[.val (.int p1), .val (.int (10 : Int32)), .val (.int (10 : Int32)), .val (.ref a_LOAD)]) rfl ?_
      show Steps p.tables e below (T488.setTop (mkF m 18 #[.val (.int p1), .val (.int (10 : Int32)), .val (.int (10 : Int32)), .val (.ref a_LOAD)] [])) _
      refine XS.aloadN X488.here hx rfl (hb hby at_18) rfl rfl ?_
      show Steps p.tables e below (T488.setTop (mkF m 19 #[.val (.int p1), .val (.int (10 : Int32)), .val (.int (10 : Int32)), .val (.ref a_LOAD)] [(.ref a_LOAD)])) _
      refine XS.iloadN X488.here hx rfl (hb hby at_19) rfl ?_
      show Steps p.tables e below (T488.setTop (mkF m 20 #[.val (.int p1), .val (.int (10 : Int32)), .val (.int (10 : Int32)), .val (.ref a_LOAD)] [(.int (10 : Int32)), (.ref a_LOAD)])) _
      exact k
    obtain ⟨_, _, ⟨T529, L529, kk529, nn529⟩, -, X529, ⟨Lc529, hQ529, l529, y529, z529⟩, st529⟩ := Jvm.LawKit.callS X488 hx (y := (⟨"com/example/chainmesh/chainmesh/OpOfPinLaw", "expected", "(I)Lcom/example/chainmesh/chainmesh/Op;"⟩ : MethodName)) hown (mvT hZ (hw _ (List.mem_of_getElem? (i := 34) rfl))) (mvT hZ (hw _ (List.mem_of_getElem? (i := 35) rfl))) (mvT hZ (hw _ (List.mem_of_getElem? (i := 36) rfl))) (mvT hZ (hw _ (List.mem_of_getElem? (i := 37) rfl))) (by decide) (backOf (W := 1) (rm3 l Z a0 hw [] (10 : Int32) a_MEMBERS a_PULL a_STORE a_READ a_COUNT a_JOIN a_PING a_CATCH_UP a_HAND_OFF a_LOAD a_QUERY a_STATUS T488.heap n0 f528 f504 f505 f506 f507 f508 f509 f510 f511 f512 f513 f514 f515) hZ (hw _ (List.mem_of_getElem? (i := 37) rfl)) (hw _ (List.mem_of_getElem? (i := 36) rfl)) (by decide) (by decide)) (g := (mkF m 20 #[.val (.int p1), .val (.int (10 : Int32)), .val (.int (10 : Int32)), .val (.ref a_LOAD)] [(.int (10 : Int32)), (.ref a_LOAD)])) rfl (by rw [hml]; rfl) (argsL := [(.int (10 : Int32))]) (rest := [(.ref a_LOAD)]) (lenOf pd_2 rfl) rfl (by show 2 * 0 + _ ≤ _; exact Nat.le_of_eq rfl) (hb hby at_20) (fun _ _ => ⟨rfl, rfl, (by decide : 1 + 0 ≤ _), (by decide : 12 + 0 ≤ _)⟩)
    dsimp only [Pt.U, Pt.locs, Pt.cells, Pt.slots] at X529 l529 y529 z529 st529 hQ529
    subst l529 y529 z529
    obtain ⟨rfl, Nq529, eq529⟩ := hQ529
    have N529 := Fr.app N488 Nq529
    refine EndsQ.go st529 ?_
    show EndsQ _ _ _ _ _ _ _ (T529.setTop (mkF m 23 #[.val (.int p1), .val (.int (10 : Int32)), .val (.int (10 : Int32)), .val (.ref a_LOAD)] [(.ref (own_exp (10 : Int32) a_MEMBERS a_PULL a_STORE a_READ a_COUNT a_JOIN a_PING a_CATCH_UP a_HAND_OFF a_LOAD a_QUERY a_STATUS)), (.ref a_LOAD)]))
    rw [(rfl : (own_exp (10 : Int32) a_MEMBERS a_PULL a_STORE a_READ a_COUNT a_JOIN a_PING a_CATCH_UP a_HAND_OFF a_LOAD a_QUERY a_STATUS) = a_LOAD)]
    show EndsQ _ _ _ _ _ _ _ (T529.setTop (mkF m 23 #[.val (.int p1), .val (.int (10 : Int32)), .val (.int (10 : Int32)), .val (.ref a_LOAD)] [(.ref a_LOAD), (.ref a_LOAD)]))
    refine EndsQ.go (b := T529.setTop (mkF m 27 #[.val (.int p1), .val (.int (10 : Int32)), .val (.int (10 : Int32)), .val (.ref a_LOAD)] [(.ref a_LOAD)])) (fun t k => ?_) ?_
    · show Steps p.tables e below (T529.setTop (mkF m 23 #[.val (.int p1), .val (.int (10 : Int32)), .val (.int (10 : Int32)), .val (.ref a_LOAD)] [(.ref a_LOAD), (.ref a_LOAD)])) _
      refine acmp X529 hx rfl (x := (.ref a_LOAD)) (y := (.ref a_LOAD)) rfl rfl (pc0 := 23) (pc' := 26) (same := true) rfl (hb hby at_23) rfl (by simp) (by decide) (by decide) ?_
      show Steps p.tables e below (T529.setTop (mkF m 26 #[.val (.int p1), .val (.int (10 : Int32)), .val (.int (10 : Int32)), .val (.ref a_LOAD)] [])) _
      refine XS.aloadN X529.here hx rfl (hb hby at_26) rfl rfl ?_
      show Steps p.tables e below (T529.setTop (mkF m 27 #[.val (.int p1), .val (.int (10 : Int32)), .val (.int (10 : Int32)), .val (.ref a_LOAD)] [(.ref a_LOAD)])) _
      exact k
    obtain ⟨cq530, kq530, qa530, qb530, qc530⟩ := isOf hZ eq529 f525
    obtain ⟨_, _, ⟨T530, L530, kk530, nn530⟩, -, X530, ⟨Lc530, hQ530, l530, y530, z530⟩, st530⟩ := X529.virtualBack hx (y := (⟨"com/example/chainmesh/chainmesh/Op", "code", "()B"⟩ : MethodName)) (z := (⟨"com/example/chainmesh/chainmesh/Op", "code", "()B"⟩ : MethodName)) hown (mvT hZ (hw _ (List.mem_of_getElem? (i := 39) rfl))) (mvT hZ (hw _ (List.mem_of_getElem? (i := 40) rfl))) (notFace_of_selects (args := #[]) (mvT hZ (hw _ (List.mem_of_getElem? (i := 42) rfl)))) (mvT hZ (hw _ (List.mem_of_getElem? (i := 42) rfl))) (mvT hZ (hw _ (List.mem_of_getElem? (i := 41) rfl))) (by decide) (backOf (W := 0) (rm4 l Z a0 hw [] a_LOAD (10 : Int32) T488.heap n0 f528 f501) hZ (hw _ (List.mem_of_getElem? (i := 43) rfl)) (hw _ (List.mem_of_getElem? (i := 3) rfl)) (by decide) (by decide)) qa530 qc530 (g := (mkF m 27 #[.val (.int p1), .val (.int (10 : Int32)), .val (.int (10 : Int32)), .val (.ref a_LOAD)] [(.ref a_LOAD)])) rfl (by rw [hml]; rfl) (Steps.refl _) (argsL := []) (rest := []) (lenOf pd_3 rfl) rfl (by show 2 * 0 + _ ≤ _; exact Nat.le_of_eq rfl) (hb hby at_27) (fun _ _ => ⟨rfl, eq529, (by decide : 1 + 0 ≤ _), (by decide : 12 + 0 ≤ _)⟩)
    dsimp only [Pt.U, Pt.locs, Pt.cells, Pt.slots] at X530 l530 y530 z530 st530 hQ530
    subst l530 y530 z530
    obtain ⟨rfl, Nq530, eq530⟩ := hQ530
    have N530 := Fr.app N529 Nq530
    refine EndsQ.go (fun t k => st530.trans k) ?_
    show EndsQ _ _ _ _ _ _ _ (T530.setTop (mkF m 30 #[.val (.int p1), .val (.int (10 : Int32)), .val (.int (10 : Int32)), .val (.ref a_LOAD)] [(.int (nar .byte (10 : Int32)))]))
    refine EndsQ.go (b := T530.setTop (mkF m 39 #[.val (.int p1), .val (.int (10 : Int32)), .val (.int (10 : Int32)), .val (.ref a_LOAD)] [(.int (1 : Int32))])) (fun t k => ?_) ?_
    · show Steps p.tables e below (T530.setTop (mkF m 30 #[.val (.int p1), .val (.int (10 : Int32)), .val (.int (10 : Int32)), .val (.ref a_LOAD)] [(.int (nar .byte (10 : Int32)))])) _
      refine XS.iloadN X530.here hx rfl (hb hby at_30) rfl ?_
      show Steps p.tables e below (T530.setTop (mkF m 31 #[.val (.int p1), .val (.int (10 : Int32)), .val (.int (10 : Int32)), .val (.ref a_LOAD)] [(.int (10 : Int32)), (.int (nar .byte (10 : Int32)))])) _
      refine XS.icmpNo X530.here hx rfl (hb hby at_31) rfl (teq (by decide)).2 ?_
      show Steps p.tables e below (T530.setTop (mkF m 34 #[.val (.int p1), .val (.int (10 : Int32)), .val (.int (10 : Int32)), .val (.ref a_LOAD)] [])) _
      refine XS.iconst X530.here hx rfl (hb hby at_34) ?_
      show Steps p.tables e below (T530.setTop (mkF m 35 #[.val (.int p1), .val (.int (10 : Int32)), .val (.int (10 : Int32)), .val (.ref a_LOAD)] [(.int (1 : Int32))])) _
      refine XS.goto X530.here hx rfl (pc0 := 35) (pc' := 39) rfl (hb hby at_35) (by decide) (by decide) ?_
      show Steps p.tables e below (T530.setTop (mkF m 39 #[.val (.int p1), .val (.int (10 : Int32)), .val (.int (10 : Int32)), .val (.ref a_LOAD)] [(.int (1 : Int32))])) _
      exact k
    refine EndsQ.retN X530 hx Bd.notSynchronized (t := .boolean) Bd.returns (by simp) (hb hby at_39) (by decide) (by decide) ?_
    show Q0 Z p1 a_VALUES kA a_MEMBERS a_PULL a_STORE a_READ a_COUNT a_JOIN a_PING a_CATCH_UP a_HAND_OFF a_LOAD a_QUERY a_STATUS h0 n0 (some (.int (nar .boolean (1 : Int32)))) T530.heap _
    rw [eq530]
    exact ⟨rfl, N530⟩
  · subst hk11
    show EndsQ _ _ _ _ _ _ _ (s₁.setTop (mkF m 10 #[.val (.int p1), .val (.int (11 : Int32)), .unset, .unset] []))
    refine EndsQ.go (b := s₁.setTop (mkF m 12 #[.val (.int p1), .val (.int (11 : Int32)), .unset, .unset] [(.int ((11 : Int32).toInt8.toInt32))])) (fun t k => ?_) ?_
    · show Steps p.tables e below (s₁.setTop (mkF m 10 #[.val (.int p1), .val (.int (11 : Int32)), .unset, .unset] [])) _
      refine XS.iloadN X0.here hx rfl (hb hby at_10) rfl ?_
      show Steps p.tables e below (s₁.setTop (mkF m 11 #[.val (.int p1), .val (.int (11 : Int32)), .unset, .unset] [(.int (11 : Int32))])) _
      refine XS.i2b X0.here hx rfl (hb hby at_11) rfl ?_
      show Steps p.tables e below (s₁.setTop (mkF m 12 #[.val (.int p1), .val (.int (11 : Int32)), .unset, .unset] [(.int ((11 : Int32).toInt8.toInt32))])) _
      exact k
    rw [(by decide : ((11 : Int32).toInt8.toInt32) = (11 : Int32))]
    show EndsQ _ _ _ _ _ _ _ (s₁.setTop (mkF m 12 #[.val (.int p1), .val (.int (11 : Int32)), .unset, .unset] [(.int (11 : Int32))]))
    refine EndsQ.go (b := s₁.setTop (mkF m 14 #[.val (.int p1), .val (.int (11 : Int32)), .val (.int (11 : Int32)), .unset] [(.int (11 : Int32))])) (fun t k => ?_) ?_
    · show Steps p.tables e below (s₁.setTop (mkF m 12 #[.val (.int p1), .val (.int (11 : Int32)), .unset, .unset] [(.int (11 : Int32))])) _
      refine XS.istoreN X0.here hx rfl (hb hby at_12) rfl (l' := #[.val (.int p1), .val (.int (11 : Int32)), .val (.int (11 : Int32)), .unset]) rfl ?_
      show Steps p.tables e below (s₁.setTop (mkF m 13 #[.val (.int p1), .val (.int (11 : Int32)), .val (.int (11 : Int32)), .unset] [])) _
      refine XS.iloadN X0.here hx rfl (hb hby at_13) rfl ?_
      show Steps p.tables e below (s₁.setTop (mkF m 14 #[.val (.int p1), .val (.int (11 : Int32)), .val (.int (11 : Int32)), .unset] [(.int (11 : Int32))])) _
      exact k
    obtain ⟨_, _, ⟨T531, L531, kk531, nn531⟩, -, X531, ⟨Lc531, hQ531, l531, y531, z531⟩, st531⟩ := Jvm.LawKit.callS X0 hx (y := (⟨"com/example/chainmesh/chainmesh/Op", "of", "(B)Lcom/example/chainmesh/chainmesh/Op;"⟩ : MethodName)) hown (mvT hZ (hw _ (List.mem_of_getElem? (i := 1) rfl))) (mvT hZ (hw _ (List.mem_of_getElem? (i := 2) rfl))) (mvT hZ (hw _ (List.mem_of_getElem? (i := 3) rfl))) (mvT hZ (hw _ (List.mem_of_getElem? (i := 4) rfl))) (by decide) (backOf (W := 0) (rm1 l Z a0 hw [] (11 : Int32) a_VALUES kA a_MEMBERS a_PULL a_STORE a_READ a_COUNT a_JOIN a_PING a_CATCH_UP a_HAND_OFF a_LOAD a_QUERY a_STATUS h0 n0 Z0 S_VALUES V_VALUES X_VALUES F_MEMBERS_code F_PULL_code F_STORE_code F_READ_code F_COUNT_code F_JOIN_code F_PING_code F_CATCH_UP_code F_HAND_OFF_code F_LOAD_code F_QUERY_code F_STATUS_code (by decide)) hZ (hw _ (List.mem_of_getElem? (i := 4) rfl)) (hw _ (List.mem_of_getElem? (i := 3) rfl)) (by decide) (by decide)) (g := (mkF m 14 #[.val (.int p1), .val (.int (11 : Int32)), .val (.int (11 : Int32)), .unset] [(.int (11 : Int32))])) rfl (by rw [hml]; rfl) (argsL := [(.int (11 : Int32))]) (rest := []) (lenOf pd_1 rfl) rfl (by show 2 * 0 + _ ≤ _; exact Nat.le_of_eq rfl) (hb hby at_14) (fun _ _ => ⟨rfl, e0, (by decide : 0 + 1 ≤ _), (by decide : 0 + 12 ≤ _)⟩)
    dsimp only [Pt.U, Pt.locs, Pt.cells, Pt.slots] at X531 l531 y531 z531 st531 hQ531
    subst l531 y531 z531
    obtain ⟨rfl, Nq531, E531⟩ := hQ531
    have N531 := Fr.app N0 Nq531
    have f532 : Sta Z T531.heap "com/example/chainmesh/chainmesh/Op" "$VALUES" "[Lcom/example/chainmesh/chainmesh/Op;" (.ref a_VALUES) := S_VALUES.ext E531
    have f533 : Arv Z T531.heap a_VALUES kA (.object "com/example/chainmesh/chainmesh/Op") (12 : Int32) [(.ref a_MEMBERS), (.ref a_PULL), (.ref a_STORE), (.ref a_READ), (.ref a_COUNT), (.ref a_JOIN), (.ref a_PING), (.ref a_CATCH_UP), (.ref a_HAND_OFF), (.ref a_LOAD), (.ref a_QUERY), (.ref a_STATUS)] .null := V_VALUES.ext E531
    have f534 : Exa Z T531.heap a_VALUES "[Lcom/example/chainmesh/chainmesh/Op;" := X_VALUES.ext E531
    have f535 : Fld Z T531.heap a_MEMBERS "com/example/chainmesh/chainmesh/Op" "code" "B" (.int (1 : Int32)) := F_MEMBERS_code.ext E531
    have f536 : Fld Z T531.heap a_PULL "com/example/chainmesh/chainmesh/Op" "code" "B" (.int (2 : Int32)) := F_PULL_code.ext E531
    have f537 : Fld Z T531.heap a_STORE "com/example/chainmesh/chainmesh/Op" "code" "B" (.int (3 : Int32)) := F_STORE_code.ext E531
    have f538 : Fld Z T531.heap a_READ "com/example/chainmesh/chainmesh/Op" "code" "B" (.int (4 : Int32)) := F_READ_code.ext E531
    have f539 : Fld Z T531.heap a_COUNT "com/example/chainmesh/chainmesh/Op" "code" "B" (.int (5 : Int32)) := F_COUNT_code.ext E531
    have f540 : Fld Z T531.heap a_JOIN "com/example/chainmesh/chainmesh/Op" "code" "B" (.int (6 : Int32)) := F_JOIN_code.ext E531
    have f541 : Fld Z T531.heap a_PING "com/example/chainmesh/chainmesh/Op" "code" "B" (.int (7 : Int32)) := F_PING_code.ext E531
    have f542 : Fld Z T531.heap a_CATCH_UP "com/example/chainmesh/chainmesh/Op" "code" "B" (.int (8 : Int32)) := F_CATCH_UP_code.ext E531
    have f543 : Fld Z T531.heap a_HAND_OFF "com/example/chainmesh/chainmesh/Op" "code" "B" (.int (9 : Int32)) := F_HAND_OFF_code.ext E531
    have f544 : Fld Z T531.heap a_LOAD "com/example/chainmesh/chainmesh/Op" "code" "B" (.int (10 : Int32)) := F_LOAD_code.ext E531
    have f545 : Fld Z T531.heap a_QUERY "com/example/chainmesh/chainmesh/Op" "code" "B" (.int (11 : Int32)) := F_QUERY_code.ext E531
    have f546 : Fld Z T531.heap a_STATUS "com/example/chainmesh/chainmesh/Op" "code" "B" (.int (12 : Int32)) := F_STATUS_code.ext E531
    have f547 : Sta Z T531.heap "com/example/chainmesh/chainmesh/Op" "MEMBERS" "Lcom/example/chainmesh/chainmesh/Op;" (.ref a_MEMBERS) := S_MEMBERS.ext E531
    have f548 : Sta Z T531.heap "com/example/chainmesh/chainmesh/Op" "PULL" "Lcom/example/chainmesh/chainmesh/Op;" (.ref a_PULL) := S_PULL.ext E531
    have f549 : Sta Z T531.heap "com/example/chainmesh/chainmesh/Op" "STORE" "Lcom/example/chainmesh/chainmesh/Op;" (.ref a_STORE) := S_STORE.ext E531
    have f550 : Sta Z T531.heap "com/example/chainmesh/chainmesh/Op" "READ" "Lcom/example/chainmesh/chainmesh/Op;" (.ref a_READ) := S_READ.ext E531
    have f551 : Sta Z T531.heap "com/example/chainmesh/chainmesh/Op" "COUNT" "Lcom/example/chainmesh/chainmesh/Op;" (.ref a_COUNT) := S_COUNT.ext E531
    have f552 : Sta Z T531.heap "com/example/chainmesh/chainmesh/Op" "JOIN" "Lcom/example/chainmesh/chainmesh/Op;" (.ref a_JOIN) := S_JOIN.ext E531
    have f553 : Sta Z T531.heap "com/example/chainmesh/chainmesh/Op" "PING" "Lcom/example/chainmesh/chainmesh/Op;" (.ref a_PING) := S_PING.ext E531
    have f554 : Sta Z T531.heap "com/example/chainmesh/chainmesh/Op" "CATCH_UP" "Lcom/example/chainmesh/chainmesh/Op;" (.ref a_CATCH_UP) := S_CATCH_UP.ext E531
    have f555 : Sta Z T531.heap "com/example/chainmesh/chainmesh/Op" "HAND_OFF" "Lcom/example/chainmesh/chainmesh/Op;" (.ref a_HAND_OFF) := S_HAND_OFF.ext E531
    have f556 : Sta Z T531.heap "com/example/chainmesh/chainmesh/Op" "LOAD" "Lcom/example/chainmesh/chainmesh/Op;" (.ref a_LOAD) := S_LOAD.ext E531
    have f557 : Sta Z T531.heap "com/example/chainmesh/chainmesh/Op" "QUERY" "Lcom/example/chainmesh/chainmesh/Op;" (.ref a_QUERY) := S_QUERY.ext E531
    have f558 : Sta Z T531.heap "com/example/chainmesh/chainmesh/Op" "STATUS" "Lcom/example/chainmesh/chainmesh/Op;" (.ref a_STATUS) := S_STATUS.ext E531
    have f559 : Exa Z T531.heap a_MEMBERS "com/example/chainmesh/chainmesh/Op" := E_MEMBERS.ext E531
    have f560 : Exa Z T531.heap a_PULL "com/example/chainmesh/chainmesh/Op" := E_PULL.ext E531
    have f561 : Exa Z T531.heap a_STORE "com/example/chainmesh/chainmesh/Op" := E_STORE.ext E531
    have f562 : Exa Z T531.heap a_READ "com/example/chainmesh/chainmesh/Op" := E_READ.ext E531
    have f563 : Exa Z T531.heap a_COUNT "com/example/chainmesh/chainmesh/Op" := E_COUNT.ext E531
    have f564 : Exa Z T531.heap a_JOIN "com/example/chainmesh/chainmesh/Op" := E_JOIN.ext E531
    have f565 : Exa Z T531.heap a_PING "com/example/chainmesh/chainmesh/Op" := E_PING.ext E531
    have f566 : Exa Z T531.heap a_CATCH_UP "com/example/chainmesh/chainmesh/Op" := E_CATCH_UP.ext E531
    have f567 : Exa Z T531.heap a_HAND_OFF "com/example/chainmesh/chainmesh/Op" := E_HAND_OFF.ext E531
    have f568 : Exa Z T531.heap a_LOAD "com/example/chainmesh/chainmesh/Op" := E_LOAD.ext E531
    have f569 : Exa Z T531.heap a_QUERY "com/example/chainmesh/chainmesh/Op" := E_QUERY.ext E531
    have f570 : Exa Z T531.heap a_STATUS "com/example/chainmesh/chainmesh/Op" := E_STATUS.ext E531
    have f571 : n0 ≤ T531.heap.size := Nat.le_trans Z0 E531.1
    refine EndsQ.go st531 ?_
    show EndsQ _ _ _ _ _ _ _ (T531.setTop (mkF m 17 #[.val (.int p1), .val (.int (11 : Int32)), .val (.int (11 : Int32)), .unset] [(.ref (own_of (11 : Int32) a_MEMBERS a_PULL a_STORE a_READ a_COUNT a_JOIN a_PING a_CATCH_UP a_HAND_OFF a_LOAD a_QUERY a_STATUS))]))
    rw [(rfl : (own_of (11 : Int32) a_MEMBERS a_PULL a_STORE a_READ a_COUNT a_JOIN a_PING a_CATCH_UP a_HAND_OFF a_LOAD a_QUERY a_STATUS) = a_QUERY)]
    show EndsQ _ _ _ _ _ _ _ (T531.setTop (mkF m 17 #[.val (.int p1), .val (.int (11 : Int32)), .val (.int (11 : Int32)), .unset] [(.ref a_QUERY)]))
    refine EndsQ.go (b := T531.setTop (mkF m 20 #[.val (.int p1), .val (.int (11 : Int32)), .val (.int (11 : Int32)), .val (.ref a_QUERY)] [(.int (11 : Int32)), (.ref a_QUERY)])) (fun t k => ?_) ?_
    · show Steps p.tables e below (T531.setTop (mkF m 17 #[.val (.int p1), .val (.int (11 : Int32)), .val (.int (11 : Int32)), .unset] [(.ref a_QUERY)])) _
      refine XS.astoreN X531.here hx rfl (hb hby at_17) rfl rfl (l' := #[.val (.int p1), .val (.int (11 : Int32)), .val (.int (11 : Int32)), .val (.ref a_QUERY)]) rfl ?_
      show Steps p.tables e below (T531.setTop (mkF m 18 #[.val (.int p1), .val (.int (11 : Int32)), .val (.int (11 : Int32)), .val (.ref a_QUERY)] [])) _
      refine XS.aloadN X531.here hx rfl (hb hby at_18) rfl rfl ?_
      show Steps p.tables e below (T531.setTop (mkF m 19 #[.val (.int p1), .val (.int (11 : Int32)), .val (.int (11 : Int32)), .val (.ref a_QUERY)] [(.ref a_QUERY)])) _
      refine XS.iloadN X531.here hx rfl (hb hby at_19) rfl ?_
      show Steps p.tables e below (T531.setTop (mkF m 20 #[.val (.int p1), .val (.int (11 : Int32)), .val (.int (11 : Int32)), .val (.ref a_QUERY)] [(.int (11 : Int32)), (.ref a_QUERY)])) _
      exact k
    obtain ⟨_, _, ⟨T572, L572, kk572, nn572⟩, -, X572, ⟨Lc572, hQ572, l572, y572, z572⟩, st572⟩ := Jvm.LawKit.callS X531 hx (y := (⟨"com/example/chainmesh/chainmesh/OpOfPinLaw", "expected", "(I)Lcom/example/chainmesh/chainmesh/Op;"⟩ : MethodName)) hown (mvT hZ (hw _ (List.mem_of_getElem? (i := 34) rfl))) (mvT hZ (hw _ (List.mem_of_getElem? (i := 35) rfl))) (mvT hZ (hw _ (List.mem_of_getElem? (i := 36) rfl))) (mvT hZ (hw _ (List.mem_of_getElem? (i := 37) rfl))) (by decide) (backOf (W := 1) (rm3 l Z a0 hw [] (11 : Int32) a_MEMBERS a_PULL a_STORE a_READ a_COUNT a_JOIN a_PING a_CATCH_UP a_HAND_OFF a_LOAD a_QUERY a_STATUS T531.heap n0 f571 f547 f548 f549 f550 f551 f552 f553 f554 f555 f556 f557 f558) hZ (hw _ (List.mem_of_getElem? (i := 37) rfl)) (hw _ (List.mem_of_getElem? (i := 36) rfl)) (by decide) (by decide)) (g := (mkF m 20 #[.val (.int p1), .val (.int (11 : Int32)), .val (.int (11 : Int32)), .val (.ref a_QUERY)] [(.int (11 : Int32)), (.ref a_QUERY)])) rfl (by rw [hml]; rfl) (argsL := [(.int (11 : Int32))]) (rest := [(.ref a_QUERY)]) (lenOf pd_2 rfl) rfl (by show 2 * 0 + _ ≤ _; exact Nat.le_of_eq rfl) (hb hby at_20) (fun _ _ => ⟨rfl, rfl, (by decide : 1 + 0 ≤ _), (by decide : 12 + 0 ≤ _)⟩)
    dsimp only [Pt.U, Pt.locs, Pt.cells, Pt.slots] at X572 l572 y572 z572 st572 hQ572
    subst l572 y572 z572
    obtain ⟨rfl, Nq572, eq572⟩ := hQ572
    have N572 := Fr.app N531 Nq572
    refine EndsQ.go st572 ?_
    show EndsQ _ _ _ _ _ _ _ (T572.setTop (mkF m 23 #[.val (.int p1), .val (.int (11 : Int32)), .val (.int (11 : Int32)), .val (.ref a_QUERY)] [(.ref (own_exp (11 : Int32) a_MEMBERS a_PULL a_STORE a_READ a_COUNT a_JOIN a_PING a_CATCH_UP a_HAND_OFF a_LOAD a_QUERY a_STATUS)), (.ref a_QUERY)]))
    rw [(rfl : (own_exp (11 : Int32) a_MEMBERS a_PULL a_STORE a_READ a_COUNT a_JOIN a_PING a_CATCH_UP a_HAND_OFF a_LOAD a_QUERY a_STATUS) = a_QUERY)]
    show EndsQ _ _ _ _ _ _ _ (T572.setTop (mkF m 23 #[.val (.int p1), .val (.int (11 : Int32)), .val (.int (11 : Int32)), .val (.ref a_QUERY)] [(.ref a_QUERY), (.ref a_QUERY)]))
    refine EndsQ.go (b := T572.setTop (mkF m 27 #[.val (.int p1), .val (.int (11 : Int32)), .val (.int (11 : Int32)), .val (.ref a_QUERY)] [(.ref a_QUERY)])) (fun t k => ?_) ?_
    · show Steps p.tables e below (T572.setTop (mkF m 23 #[.val (.int p1), .val (.int (11 : Int32)), .val (.int (11 : Int32)), .val (.ref a_QUERY)] [(.ref a_QUERY), (.ref a_QUERY)])) _
      refine acmp X572 hx rfl (x := (.ref a_QUERY)) (y := (.ref a_QUERY)) rfl rfl (pc0 := 23) (pc' := 26) (same := true) rfl (hb hby at_23) rfl (by simp) (by decide) (by decide) ?_
      show Steps p.tables e below (T572.setTop (mkF m 26 #[.val (.int p1), .val (.int (11 : Int32)), .val (.int (11 : Int32)), .val (.ref a_QUERY)] [])) _
      refine XS.aloadN X572.here hx rfl (hb hby at_26) rfl rfl ?_
      show Steps p.tables e below (T572.setTop (mkF m 27 #[.val (.int p1), .val (.int (11 : Int32)), .val (.int (11 : Int32)), .val (.ref a_QUERY)] [(.ref a_QUERY)])) _
      exact k
    obtain ⟨cq573, kq573, qa573, qb573, qc573⟩ := isOf hZ eq572 f569
    obtain ⟨_, _, ⟨T573, L573, kk573, nn573⟩, -, X573, ⟨Lc573, hQ573, l573, y573, z573⟩, st573⟩ := X572.virtualBack hx (y := (⟨"com/example/chainmesh/chainmesh/Op", "code", "()B"⟩ : MethodName)) (z := (⟨"com/example/chainmesh/chainmesh/Op", "code", "()B"⟩ : MethodName)) hown (mvT hZ (hw _ (List.mem_of_getElem? (i := 39) rfl))) (mvT hZ (hw _ (List.mem_of_getElem? (i := 40) rfl))) (notFace_of_selects (args := #[]) (mvT hZ (hw _ (List.mem_of_getElem? (i := 42) rfl)))) (mvT hZ (hw _ (List.mem_of_getElem? (i := 42) rfl))) (mvT hZ (hw _ (List.mem_of_getElem? (i := 41) rfl))) (by decide) (backOf (W := 0) (rm4 l Z a0 hw [] a_QUERY (11 : Int32) T531.heap n0 f571 f545) hZ (hw _ (List.mem_of_getElem? (i := 43) rfl)) (hw _ (List.mem_of_getElem? (i := 3) rfl)) (by decide) (by decide)) qa573 qc573 (g := (mkF m 27 #[.val (.int p1), .val (.int (11 : Int32)), .val (.int (11 : Int32)), .val (.ref a_QUERY)] [(.ref a_QUERY)])) rfl (by rw [hml]; rfl) (Steps.refl _) (argsL := []) (rest := []) (lenOf pd_3 rfl) rfl (by show 2 * 0 + _ ≤ _; exact Nat.le_of_eq rfl) (hb hby at_27) (fun _ _ => ⟨rfl, eq572, (by decide : 1 + 0 ≤ _), (by decide : 12 + 0 ≤ _)⟩)
    dsimp only [Pt.U, Pt.locs, Pt.cells, Pt.slots] at X573 l573 y573 z573 st573 hQ573
    subst l573 y573 z573
    obtain ⟨rfl, Nq573, eq573⟩ := hQ573
    have N573 := Fr.app N572 Nq573
    refine EndsQ.go (fun t k => st573.trans k) ?_
    show EndsQ _ _ _ _ _ _ _ (T573.setTop (mkF m 30 #[.val (.int p1), .val (.int (11 : Int32)), .val (.int (11 : Int32)), .val (.ref a_QUERY)] [(.int (nar .byte (11 : Int32)))]))
    refine EndsQ.go (b := T573.setTop (mkF m 39 #[.val (.int p1), .val (.int (11 : Int32)), .val (.int (11 : Int32)), .val (.ref a_QUERY)] [(.int (1 : Int32))])) (fun t k => ?_) ?_
    · show Steps p.tables e below (T573.setTop (mkF m 30 #[.val (.int p1), .val (.int (11 : Int32)), .val (.int (11 : Int32)), .val (.ref a_QUERY)] [(.int (nar .byte (11 : Int32)))])) _
      refine XS.iloadN X573.here hx rfl (hb hby at_30) rfl ?_
      show Steps p.tables e below (T573.setTop (mkF m 31 #[.val (.int p1), .val (.int (11 : Int32)), .val (.int (11 : Int32)), .val (.ref a_QUERY)] [(.int (11 : Int32)), (.int (nar .byte (11 : Int32)))])) _
      refine XS.icmpNo X573.here hx rfl (hb hby at_31) rfl (teq (by decide)).2 ?_
      show Steps p.tables e below (T573.setTop (mkF m 34 #[.val (.int p1), .val (.int (11 : Int32)), .val (.int (11 : Int32)), .val (.ref a_QUERY)] [])) _
      refine XS.iconst X573.here hx rfl (hb hby at_34) ?_
      show Steps p.tables e below (T573.setTop (mkF m 35 #[.val (.int p1), .val (.int (11 : Int32)), .val (.int (11 : Int32)), .val (.ref a_QUERY)] [(.int (1 : Int32))])) _
      refine XS.goto X573.here hx rfl (pc0 := 35) (pc' := 39) rfl (hb hby at_35) (by decide) (by decide) ?_
      show Steps p.tables e below (T573.setTop (mkF m 39 #[.val (.int p1), .val (.int (11 : Int32)), .val (.int (11 : Int32)), .val (.ref a_QUERY)] [(.int (1 : Int32))])) _
      exact k
    refine EndsQ.retN X573 hx Bd.notSynchronized (t := .boolean) Bd.returns (by simp) (hb hby at_39) (by decide) (by decide) ?_
    show Q0 Z p1 a_VALUES kA a_MEMBERS a_PULL a_STORE a_READ a_COUNT a_JOIN a_PING a_CATCH_UP a_HAND_OFF a_LOAD a_QUERY a_STATUS h0 n0 (some (.int (nar .boolean (1 : Int32)))) T573.heap _
    rw [eq573]
    exact ⟨rfl, N573⟩
  · subst hk12
    show EndsQ _ _ _ _ _ _ _ (s₁.setTop (mkF m 10 #[.val (.int p1), .val (.int (12 : Int32)), .unset, .unset] []))
    refine EndsQ.go (b := s₁.setTop (mkF m 12 #[.val (.int p1), .val (.int (12 : Int32)), .unset, .unset] [(.int ((12 : Int32).toInt8.toInt32))])) (fun t k => ?_) ?_
    · show Steps p.tables e below (s₁.setTop (mkF m 10 #[.val (.int p1), .val (.int (12 : Int32)), .unset, .unset] [])) _
      refine XS.iloadN X0.here hx rfl (hb hby at_10) rfl ?_
      show Steps p.tables e below (s₁.setTop (mkF m 11 #[.val (.int p1), .val (.int (12 : Int32)), .unset, .unset] [(.int (12 : Int32))])) _
      refine XS.i2b X0.here hx rfl (hb hby at_11) rfl ?_
      show Steps p.tables e below (s₁.setTop (mkF m 12 #[.val (.int p1), .val (.int (12 : Int32)), .unset, .unset] [(.int ((12 : Int32).toInt8.toInt32))])) _
      exact k
    rw [(by decide : ((12 : Int32).toInt8.toInt32) = (12 : Int32))]
    show EndsQ _ _ _ _ _ _ _ (s₁.setTop (mkF m 12 #[.val (.int p1), .val (.int (12 : Int32)), .unset, .unset] [(.int (12 : Int32))]))
    refine EndsQ.go (b := s₁.setTop (mkF m 14 #[.val (.int p1), .val (.int (12 : Int32)), .val (.int (12 : Int32)), .unset] [(.int (12 : Int32))])) (fun t k => ?_) ?_
    · show Steps p.tables e below (s₁.setTop (mkF m 12 #[.val (.int p1), .val (.int (12 : Int32)), .unset, .unset] [(.int (12 : Int32))])) _
      refine XS.istoreN X0.here hx rfl (hb hby at_12) rfl (l' := #[.val (.int p1), .val (.int (12 : Int32)), .val (.int (12 : Int32)), .unset]) rfl ?_
      show Steps p.tables e below (s₁.setTop (mkF m 13 #[.val (.int p1), .val (.int (12 : Int32)), .val (.int (12 : Int32)), .unset] [])) _
      refine XS.iloadN X0.here hx rfl (hb hby at_13) rfl ?_
      show Steps p.tables e below (s₁.setTop (mkF m 14 #[.val (.int p1), .val (.int (12 : Int32)), .val (.int (12 : Int32)), .unset] [(.int (12 : Int32))])) _
      exact k
    obtain ⟨_, _, ⟨T574, L574, kk574, nn574⟩, -, X574, ⟨Lc574, hQ574, l574, y574, z574⟩, st574⟩ := Jvm.LawKit.callS X0 hx (y := (⟨"com/example/chainmesh/chainmesh/Op", "of", "(B)Lcom/example/chainmesh/chainmesh/Op;"⟩ : MethodName)) hown (mvT hZ (hw _ (List.mem_of_getElem? (i := 1) rfl))) (mvT hZ (hw _ (List.mem_of_getElem? (i := 2) rfl))) (mvT hZ (hw _ (List.mem_of_getElem? (i := 3) rfl))) (mvT hZ (hw _ (List.mem_of_getElem? (i := 4) rfl))) (by decide) (backOf (W := 0) (rm1 l Z a0 hw [] (12 : Int32) a_VALUES kA a_MEMBERS a_PULL a_STORE a_READ a_COUNT a_JOIN a_PING a_CATCH_UP a_HAND_OFF a_LOAD a_QUERY a_STATUS h0 n0 Z0 S_VALUES V_VALUES X_VALUES F_MEMBERS_code F_PULL_code F_STORE_code F_READ_code F_COUNT_code F_JOIN_code F_PING_code F_CATCH_UP_code F_HAND_OFF_code F_LOAD_code F_QUERY_code F_STATUS_code (by decide)) hZ (hw _ (List.mem_of_getElem? (i := 4) rfl)) (hw _ (List.mem_of_getElem? (i := 3) rfl)) (by decide) (by decide)) (g := (mkF m 14 #[.val (.int p1), .val (.int (12 : Int32)), .val (.int (12 : Int32)), .unset] [(.int (12 : Int32))])) rfl (by rw [hml]; rfl) (argsL := [(.int (12 : Int32))]) (rest := []) (lenOf pd_1 rfl) rfl (by show 2 * 0 + _ ≤ _; exact Nat.le_of_eq rfl) (hb hby at_14) (fun _ _ => ⟨rfl, e0, (by decide : 0 + 1 ≤ _), (by decide : 0 + 12 ≤ _)⟩)
    dsimp only [Pt.U, Pt.locs, Pt.cells, Pt.slots] at X574 l574 y574 z574 st574 hQ574
    subst l574 y574 z574
    obtain ⟨rfl, Nq574, E574⟩ := hQ574
    have N574 := Fr.app N0 Nq574
    have f575 : Sta Z T574.heap "com/example/chainmesh/chainmesh/Op" "$VALUES" "[Lcom/example/chainmesh/chainmesh/Op;" (.ref a_VALUES) := S_VALUES.ext E574
    have f576 : Arv Z T574.heap a_VALUES kA (.object "com/example/chainmesh/chainmesh/Op") (12 : Int32) [(.ref a_MEMBERS), (.ref a_PULL), (.ref a_STORE), (.ref a_READ), (.ref a_COUNT), (.ref a_JOIN), (.ref a_PING), (.ref a_CATCH_UP), (.ref a_HAND_OFF), (.ref a_LOAD), (.ref a_QUERY), (.ref a_STATUS)] .null := V_VALUES.ext E574
    have f577 : Exa Z T574.heap a_VALUES "[Lcom/example/chainmesh/chainmesh/Op;" := X_VALUES.ext E574
    have f578 : Fld Z T574.heap a_MEMBERS "com/example/chainmesh/chainmesh/Op" "code" "B" (.int (1 : Int32)) := F_MEMBERS_code.ext E574
    have f579 : Fld Z T574.heap a_PULL "com/example/chainmesh/chainmesh/Op" "code" "B" (.int (2 : Int32)) := F_PULL_code.ext E574
    have f580 : Fld Z T574.heap a_STORE "com/example/chainmesh/chainmesh/Op" "code" "B" (.int (3 : Int32)) := F_STORE_code.ext E574
    have f581 : Fld Z T574.heap a_READ "com/example/chainmesh/chainmesh/Op" "code" "B" (.int (4 : Int32)) := F_READ_code.ext E574
    have f582 : Fld Z T574.heap a_COUNT "com/example/chainmesh/chainmesh/Op" "code" "B" (.int (5 : Int32)) := F_COUNT_code.ext E574
    have f583 : Fld Z T574.heap a_JOIN "com/example/chainmesh/chainmesh/Op" "code" "B" (.int (6 : Int32)) := F_JOIN_code.ext E574
    have f584 : Fld Z T574.heap a_PING "com/example/chainmesh/chainmesh/Op" "code" "B" (.int (7 : Int32)) := F_PING_code.ext E574
    have f585 : Fld Z T574.heap a_CATCH_UP "com/example/chainmesh/chainmesh/Op" "code" "B" (.int (8 : Int32)) := F_CATCH_UP_code.ext E574
    have f586 : Fld Z T574.heap a_HAND_OFF "com/example/chainmesh/chainmesh/Op" "code" "B" (.int (9 : Int32)) := F_HAND_OFF_code.ext E574
    have f587 : Fld Z T574.heap a_LOAD "com/example/chainmesh/chainmesh/Op" "code" "B" (.int (10 : Int32)) := F_LOAD_code.ext E574
    have f588 : Fld Z T574.heap a_QUERY "com/example/chainmesh/chainmesh/Op" "code" "B" (.int (11 : Int32)) := F_QUERY_code.ext E574
    have f589 : Fld Z T574.heap a_STATUS "com/example/chainmesh/chainmesh/Op" "code" "B" (.int (12 : Int32)) := F_STATUS_code.ext E574
    have f590 : Sta Z T574.heap "com/example/chainmesh/chainmesh/Op" "MEMBERS" "Lcom/example/chainmesh/chainmesh/Op;" (.ref a_MEMBERS) := S_MEMBERS.ext E574
    have f591 : Sta Z T574.heap "com/example/chainmesh/chainmesh/Op" "PULL" "Lcom/example/chainmesh/chainmesh/Op;" (.ref a_PULL) := S_PULL.ext E574
    have f592 : Sta Z T574.heap "com/example/chainmesh/chainmesh/Op" "STORE" "Lcom/example/chainmesh/chainmesh/Op;" (.ref a_STORE) := S_STORE.ext E574
    have f593 : Sta Z T574.heap "com/example/chainmesh/chainmesh/Op" "READ" "Lcom/example/chainmesh/chainmesh/Op;" (.ref a_READ) := S_READ.ext E574
    have f594 : Sta Z T574.heap "com/example/chainmesh/chainmesh/Op" "COUNT" "Lcom/example/chainmesh/chainmesh/Op;" (.ref a_COUNT) := S_COUNT.ext E574
    have f595 : Sta Z T574.heap "com/example/chainmesh/chainmesh/Op" "JOIN" "Lcom/example/chainmesh/chainmesh/Op;" (.ref a_JOIN) := S_JOIN.ext E574
    have f596 : Sta Z T574.heap "com/example/chainmesh/chainmesh/Op" "PING" "Lcom/example/chainmesh/chainmesh/Op;" (.ref a_PING) := S_PING.ext E574
    have f597 : Sta Z T574.heap "com/example/chainmesh/chainmesh/Op" "CATCH_UP" "Lcom/example/chainmesh/chainmesh/Op;" (.ref a_CATCH_UP) := S_CATCH_UP.ext E574
    have f598 : Sta Z T574.heap "com/example/chainmesh/chainmesh/Op" "HAND_OFF" "Lcom/example/chainmesh/chainmesh/Op;" (.ref a_HAND_OFF) := S_HAND_OFF.ext E574
    have f599 : Sta Z T574.heap "com/example/chainmesh/chainmesh/Op" "LOAD" "Lcom/example/chainmesh/chainmesh/Op;" (.ref a_LOAD) := S_LOAD.ext E574
    have f600 : Sta Z T574.heap "com/example/chainmesh/chainmesh/Op" "QUERY" "Lcom/example/chainmesh/chainmesh/Op;" (.ref a_QUERY) := S_QUERY.ext E574
    have f601 : Sta Z T574.heap "com/example/chainmesh/chainmesh/Op" "STATUS" "Lcom/example/chainmesh/chainmesh/Op;" (.ref a_STATUS) := S_STATUS.ext E574
    have f602 : Exa Z T574.heap a_MEMBERS "com/example/chainmesh/chainmesh/Op" := E_MEMBERS.ext E574
    have f603 : Exa Z T574.heap a_PULL "com/example/chainmesh/chainmesh/Op" := E_PULL.ext E574
    have f604 : Exa Z T574.heap a_STORE "com/example/chainmesh/chainmesh/Op" := E_STORE.ext E574
    have f605 : Exa Z T574.heap a_READ "com/example/chainmesh/chainmesh/Op" := E_READ.ext E574
    have f606 : Exa Z T574.heap a_COUNT "com/example/chainmesh/chainmesh/Op" := E_COUNT.ext E574
    have f607 : Exa Z T574.heap a_JOIN "com/example/chainmesh/chainmesh/Op" := E_JOIN.ext E574
    have f608 : Exa Z T574.heap a_PING "com/example/chainmesh/chainmesh/Op" := E_PING.ext E574
    have f609 : Exa Z T574.heap a_CATCH_UP "com/example/chainmesh/chainmesh/Op" := E_CATCH_UP.ext E574
    have f610 : Exa Z T574.heap a_HAND_OFF "com/example/chainmesh/chainmesh/Op" := E_HAND_OFF.ext E574
    have f611 : Exa Z T574.heap a_LOAD "com/example/chainmesh/chainmesh/Op" := E_LOAD.ext E574
    have f612 : Exa Z T574.heap a_QUERY "com/example/chainmesh/chainmesh/Op" := E_QUERY.ext E574
    have f613 : Exa Z T574.heap a_STATUS "com/example/chainmesh/chainmesh/Op" := E_STATUS.ext E574
    have f614 : n0 ≤ T574.heap.size := Nat.le_trans Z0 E574.1
    refine EndsQ.go st574 ?_
    show EndsQ _ _ _ _ _ _ _ (T574.setTop (mkF m 17 #[.val (.int p1), .val (.int (12 : Int32)), .val (.int (12 : Int32)), .unset] [(.ref (own_of (12 : Int32) a_MEMBERS a_PULL a_STORE a_READ a_COUNT a_JOIN a_PING a_CATCH_UP a_HAND_OFF a_LOAD a_QUERY a_STATUS))]))
    rw [(rfl : (own_of (12 : Int32) a_MEMBERS a_PULL a_STORE a_READ a_COUNT a_JOIN a_PING a_CATCH_UP a_HAND_OFF a_LOAD a_QUERY a_STATUS) = a_STATUS)]
    show EndsQ _ _ _ _ _ _ _ (T574.setTop (mkF m 17 #[.val (.int p1), .val (.int (12 : Int32)), .val (.int (12 : Int32)), .unset] [(.ref a_STATUS)]))
    refine EndsQ.go (b := T574.setTop (mkF m 20 #[.val (.int p1), .val (.int (12 : Int32)), .val (.int (12 : Int32)), .val (.ref a_STATUS)] [(.int (12 : Int32)), (.ref a_STATUS)])) (fun t k => ?_) ?_
    · show Steps p.tables e below (T574.setTop (mkF m 17 #[.val (.int p1), .val (.int (12 : Int32)), .val (.int (12 : Int32)), .unset] [(.ref a_STATUS)])) _
      refine XS.astoreN X574.here hx rfl (hb hby at_17) rfl rfl (l' := #[.val (.int p1), .val (.int (12 : Int32)), .val (.int (12 : Int32)), .val (.ref a_STATUS)]) rfl ?_
      show Steps p.tables e below (T574.setTop (mkF m 18 #[.val (.int p1), .val (.int (12 : Int32)), .val (.int (12 : Int32)), .val (.ref a_STATUS)] [])) _
      refine XS.aloadN X574.here hx rfl (hb hby at_18) rfl rfl ?_
      show Steps p.tables e below (T574.setTop (mkF m 19 #[.val (.int p1), .val (.int (12 : Int32)), .val (.int (12 : Int32)), .val (.ref a_STATUS)] [(.ref a_STATUS)])) _
      refine XS.iloadN X574.here hx rfl (hb hby at_19) rfl ?_
      show Steps p.tables e below (T574.setTop (mkF m 20 #[.val (.int p1), .val (.int (12 : Int32)), .val (.int (12 : Int32)), .val (.ref a_STATUS)] [(.int (12 : Int32)), (.ref a_STATUS)])) _
      exact k
    obtain ⟨_, _, ⟨T615, L615, kk615, nn615⟩, -, X615, ⟨Lc615, hQ615, l615, y615, z615⟩, st615⟩ := Jvm.LawKit.callS X574 hx (y := (⟨"com/example/chainmesh/chainmesh/OpOfPinLaw", "expected", "(I)Lcom/example/chainmesh/chainmesh/Op;"⟩ : MethodName)) hown (mvT hZ (hw _ (List.mem_of_getElem? (i := 34) rfl))) (mvT hZ (hw _ (List.mem_of_getElem? (i := 35) rfl))) (mvT hZ (hw _ (List.mem_of_getElem? (i := 36) rfl))) (mvT hZ (hw _ (List.mem_of_getElem? (i := 37) rfl))) (by decide) (backOf (W := 1) (rm3 l Z a0 hw [] (12 : Int32) a_MEMBERS a_PULL a_STORE a_READ a_COUNT a_JOIN a_PING a_CATCH_UP a_HAND_OFF a_LOAD a_QUERY a_STATUS T574.heap n0 f614 f590 f591 f592 f593 f594 f595 f596 f597 f598 f599 f600 f601) hZ (hw _ (List.mem_of_getElem? (i := 37) rfl)) (hw _ (List.mem_of_getElem? (i := 36) rfl)) (by decide) (by decide)) (g := (mkF m 20 #[.val (.int p1), .val (.int (12 : Int32)), .val (.int (12 : Int32)), .val (.ref a_STATUS)] [(.int (12 : Int32)), (.ref a_STATUS)])) rfl (by rw [hml]; rfl) (argsL := [(.int (12 : Int32))]) (rest := [(.ref a_STATUS)]) (lenOf pd_2 rfl) rfl (by show 2 * 0 + _ ≤ _; exact Nat.le_of_eq rfl) (hb hby at_20) (fun _ _ => ⟨rfl, rfl, (by decide : 1 + 0 ≤ _), (by decide : 12 + 0 ≤ _)⟩)
    dsimp only [Pt.U, Pt.locs, Pt.cells, Pt.slots] at X615 l615 y615 z615 st615 hQ615
    subst l615 y615 z615
    obtain ⟨rfl, Nq615, eq615⟩ := hQ615
    have N615 := Fr.app N574 Nq615
    refine EndsQ.go st615 ?_
    show EndsQ _ _ _ _ _ _ _ (T615.setTop (mkF m 23 #[.val (.int p1), .val (.int (12 : Int32)), .val (.int (12 : Int32)), .val (.ref a_STATUS)] [(.ref (own_exp (12 : Int32) a_MEMBERS a_PULL a_STORE a_READ a_COUNT a_JOIN a_PING a_CATCH_UP a_HAND_OFF a_LOAD a_QUERY a_STATUS)), (.ref a_STATUS)]))
    rw [(rfl : (own_exp (12 : Int32) a_MEMBERS a_PULL a_STORE a_READ a_COUNT a_JOIN a_PING a_CATCH_UP a_HAND_OFF a_LOAD a_QUERY a_STATUS) = a_STATUS)]
    show EndsQ _ _ _ _ _ _ _ (T615.setTop (mkF m 23 #[.val (.int p1), .val (.int (12 : Int32)), .val (.int (12 : Int32)), .val (.ref a_STATUS)] [(.ref a_STATUS), (.ref a_STATUS)]))
    refine EndsQ.go (b := T615.setTop (mkF m 27 #[.val (.int p1), .val (.int (12 : Int32)), .val (.int (12 : Int32)), .val (.ref a_STATUS)] [(.ref a_STATUS)])) (fun t k => ?_) ?_
    · show Steps p.tables e below (T615.setTop (mkF m 23 #[.val (.int p1), .val (.int (12 : Int32)), .val (.int (12 : Int32)), .val (.ref a_STATUS)] [(.ref a_STATUS), (.ref a_STATUS)])) _
      refine acmp X615 hx rfl (x := (.ref a_STATUS)) (y := (.ref a_STATUS)) rfl rfl (pc0 := 23) (pc' := 26) (same := true) rfl (hb hby at_23) rfl (by simp) (by decide) (by decide) ?_
      show Steps p.tables e below (T615.setTop (mkF m 26 #[.val (.int p1), .val (.int (12 : Int32)), .val (.int (12 : Int32)), .val (.ref a_STATUS)] [])) _
      refine XS.aloadN X615.here hx rfl (hb hby at_26) rfl rfl ?_
      show Steps p.tables e below (T615.setTop (mkF m 27 #[.val (.int p1), .val (.int (12 : Int32)), .val (.int (12 : Int32)), .val (.ref a_STATUS)] [(.ref a_STATUS)])) _
      exact k
    obtain ⟨cq616, kq616, qa616, qb616, qc616⟩ := isOf hZ eq615 f613
    obtain ⟨_, _, ⟨T616, L616, kk616, nn616⟩, -, X616, ⟨Lc616, hQ616, l616, y616, z616⟩, st616⟩ := X615.virtualBack hx (y := (⟨"com/example/chainmesh/chainmesh/Op", "code", "()B"⟩ : MethodName)) (z := (⟨"com/example/chainmesh/chainmesh/Op", "code", "()B"⟩ : MethodName)) hown (mvT hZ (hw _ (List.mem_of_getElem? (i := 39) rfl))) (mvT hZ (hw _ (List.mem_of_getElem? (i := 40) rfl))) (notFace_of_selects (args := #[]) (mvT hZ (hw _ (List.mem_of_getElem? (i := 42) rfl)))) (mvT hZ (hw _ (List.mem_of_getElem? (i := 42) rfl))) (mvT hZ (hw _ (List.mem_of_getElem? (i := 41) rfl))) (by decide) (backOf (W := 0) (rm4 l Z a0 hw [] a_STATUS (12 : Int32) T574.heap n0 f614 f589) hZ (hw _ (List.mem_of_getElem? (i := 43) rfl)) (hw _ (List.mem_of_getElem? (i := 3) rfl)) (by decide) (by decide)) qa616 qc616 (g := (mkF m 27 #[.val (.int p1), .val (.int (12 : Int32)), .val (.int (12 : Int32)), .val (.ref a_STATUS)] [(.ref a_STATUS)])) rfl (by rw [hml]; rfl) (Steps.refl _) (argsL := []) (rest := []) (lenOf pd_3 rfl) rfl (by show 2 * 0 + _ ≤ _; exact Nat.le_of_eq rfl) (hb hby at_27) (fun _ _ => ⟨rfl, eq615, (by decide : 1 + 0 ≤ _), (by decide : 12 + 0 ≤ _)⟩)
    dsimp only [Pt.U, Pt.locs, Pt.cells, Pt.slots] at X616 l616 y616 z616 st616 hQ616
    subst l616 y616 z616
    obtain ⟨rfl, Nq616, eq616⟩ := hQ616
    have N616 := Fr.app N615 Nq616
    refine EndsQ.go (fun t k => st616.trans k) ?_
    show EndsQ _ _ _ _ _ _ _ (T616.setTop (mkF m 30 #[.val (.int p1), .val (.int (12 : Int32)), .val (.int (12 : Int32)), .val (.ref a_STATUS)] [(.int (nar .byte (12 : Int32)))]))
    refine EndsQ.go (b := T616.setTop (mkF m 39 #[.val (.int p1), .val (.int (12 : Int32)), .val (.int (12 : Int32)), .val (.ref a_STATUS)] [(.int (1 : Int32))])) (fun t k => ?_) ?_
    · show Steps p.tables e below (T616.setTop (mkF m 30 #[.val (.int p1), .val (.int (12 : Int32)), .val (.int (12 : Int32)), .val (.ref a_STATUS)] [(.int (nar .byte (12 : Int32)))])) _
      refine XS.iloadN X616.here hx rfl (hb hby at_30) rfl ?_
      show Steps p.tables e below (T616.setTop (mkF m 31 #[.val (.int p1), .val (.int (12 : Int32)), .val (.int (12 : Int32)), .val (.ref a_STATUS)] [(.int (12 : Int32)), (.int (nar .byte (12 : Int32)))])) _
      refine XS.icmpNo X616.here hx rfl (hb hby at_31) rfl (teq (by decide)).2 ?_
      show Steps p.tables e below (T616.setTop (mkF m 34 #[.val (.int p1), .val (.int (12 : Int32)), .val (.int (12 : Int32)), .val (.ref a_STATUS)] [])) _
      refine XS.iconst X616.here hx rfl (hb hby at_34) ?_
      show Steps p.tables e below (T616.setTop (mkF m 35 #[.val (.int p1), .val (.int (12 : Int32)), .val (.int (12 : Int32)), .val (.ref a_STATUS)] [(.int (1 : Int32))])) _
      refine XS.goto X616.here hx rfl (pc0 := 35) (pc' := 39) rfl (hb hby at_35) (by decide) (by decide) ?_
      show Steps p.tables e below (T616.setTop (mkF m 39 #[.val (.int p1), .val (.int (12 : Int32)), .val (.int (12 : Int32)), .val (.ref a_STATUS)] [(.int (1 : Int32))])) _
      exact k
    refine EndsQ.retN X616 hx Bd.notSynchronized (t := .boolean) Bd.returns (by simp) (hb hby at_39) (by decide) (by decide) ?_
    show Q0 Z p1 a_VALUES kA a_MEMBERS a_PULL a_STORE a_READ a_COUNT a_JOIN a_PING a_CATCH_UP a_HAND_OFF a_LOAD a_QUERY a_STATUS h0 n0 (some (.int (nar .boolean (1 : Int32)))) T616.heap _
    rw [eq616]
    exact ⟨rfl, N616⟩
set_option maxRecDepth 65536 in
set_option maxHeartbeats 40000000 in
theorem comes_1 {Post : Tables → Env → Array Value → State → Outcome → State → Prop} (hpost : ∀ tb e args s v u, (limb_1_1.after args s (.returned v) u = true ∧ limb_1_2.after args s (.returned v) u = true ∧ True) → FrameEnd s (.returned v) u (Jvm.fieldLocs frame_1_writes args s ++ Jvm.arrayLocs frame_1_arrays args s ++ Jvm.staticLocs frame_1_statics s) 16 128 → Post tb e args s (.returned v) u) :
    ArmFor flags0 classFile x code maxLocals ret World_1 tables_1 room_1 Calls_1 rest_1 Pre_1 Post := by
  intro l hfl _ _ p e ha hc hk s m args below hf hA hF happ hP
  obtain ⟨hcalls, hrest, hpre⟩ := hP
  obtain ⟨-, -, -, hnamed, -, -, -, hat⟩ := (Spec.applies_iff hf).mp happ
  obtain ⟨hg, hn⟩ := and_e (Cond.before_iff.mp (show (Jvm.Cond.and given_1 narrow_1).before args s = true from hpre))
  obtain ⟨g1a, g1b⟩ := and_e hg
  obtain ⟨w0, rfl⟩ : ∃ w0 : Value, args = #[w0] := by
    have hs : args.size = 1 := by simpa [Cond.value, given_1] using g1a
    obtain ⟨L⟩ := args
    match L, hs with
    | [w0], _ => exact ⟨w0, rfl⟩
  have hw := fun d (hd : d ∈ tables_1) => atoms_spec (ws := Jvm.Cond.code x code maxLocals ret :: tables_1) hat d (List.mem_cons_of_mem _ hd)
  have hfit : Fit s := fun {y c} hc i hi => by
    obtain ⟨ha, rfl⟩ := Array.getElem?_eq_some_iff.mp hc
    have q := List.all_eq_true.mp ((Array.all_eq_true_iff_forall_mem.mp hF) _ (Array.getElem_mem ha)) i (List.mem_range.mpr hi)
    simpa [Array.getElem?_eq_getElem hi] using q
  obtain ⟨i0, ei0⟩ := is_v g1b
  obtain rfl : w0 = (.int i0) := Option.some.inj ei0
  obtain ⟨n0, hn0⟩ := and_e hn
  obtain ⟨n1, hn1⟩ := and_e hn0
  obtain ⟨n2, hn2⟩ := and_e hn1
  obtain ⟨n3, hn3⟩ := and_e hn2
  obtain ⟨n4, hn4⟩ := and_e hn3
  obtain ⟨n5, hn5⟩ := and_e hn4
  obtain ⟨n6, hn6⟩ := and_e hn5
  obtain ⟨n7, hn7⟩ := and_e hn6
  obtain ⟨n8, hn8⟩ := and_e hn7
  obtain ⟨n9, hn9⟩ := and_e hn8
  obtain ⟨n10, hn10⟩ := and_e hn9
  obtain ⟨n11, hn11⟩ := and_e hn10
  obtain ⟨n12, hn12⟩ := and_e hn11
  obtain ⟨n13, hn13⟩ := and_e hn12
  obtain ⟨n14, hn14⟩ := and_e hn13
  obtain ⟨n15, hn15⟩ := and_e hn14
  obtain ⟨n16, hn16⟩ := and_e hn15
  obtain ⟨n17, hn17⟩ := and_e hn16
  obtain ⟨n18, hn18⟩ := and_e hn17
  obtain ⟨n19, hn19⟩ := and_e hn18
  obtain ⟨n20, hn20⟩ := and_e hn19
  obtain ⟨n21, hn21⟩ := and_e hn20
  obtain ⟨n22, hn22⟩ := and_e hn21
  obtain ⟨n23, hn23⟩ := and_e hn22
  obtain ⟨n24, hn24⟩ := and_e hn23
  obtain ⟨n25, hn25⟩ := and_e hn24
  obtain ⟨n26, hn26⟩ := and_e hn25
  obtain ⟨n27, hn27⟩ := and_e hn26
  obtain ⟨n28, hn28⟩ := and_e hn27
  obtain ⟨n29, hn29⟩ := and_e hn28
  obtain ⟨n30, hn30⟩ := and_e hn29
  obtain ⟨n31, hn31⟩ := and_e hn30
  obtain ⟨n32, hn32⟩ := and_e hn31
  obtain ⟨n33, hn33⟩ := and_e hn32
  obtain ⟨n34, hn34⟩ := and_e hn33
  obtain ⟨n35, hn35⟩ := and_e hn34
  obtain ⟨n36, hn36⟩ := and_e hn35
  obtain ⟨n37, hn37⟩ := and_e hn36
  obtain ⟨a_VALUES, ev_VALUES⟩ := arr_v n0
  have S_VALUES := Sta.start ev_VALUES (Or.inr ⟨(hw _ (List.mem_of_getElem? (i := 3) rfl)), (hw _ (List.mem_of_getElem? (i := 9) rfl))⟩)
  have X_VALUES := Exa.start ev_VALUES n1
  obtain ⟨a_MEMBERS, ev_MEMBERS⟩ := exa_v n3
  have X_MEMBERS := Exa.start ev_MEMBERS n3
  have S_MEMBERS := Sta.start ev_MEMBERS (Or.inr ⟨(hw _ (List.mem_of_getElem? (i := 3) rfl)), (hw _ (List.mem_of_getElem? (i := 17) rfl))⟩)
  obtain ⟨a_PULL, ev_PULL⟩ := exa_v n5
  have X_PULL := Exa.start ev_PULL n5
  have S_PULL := Sta.start ev_PULL (Or.inr ⟨(hw _ (List.mem_of_getElem? (i := 3) rfl)), (hw _ (List.mem_of_getElem? (i := 18) rfl))⟩)
  obtain ⟨a_STORE, ev_STORE⟩ := exa_v n7
  have X_STORE := Exa.start ev_STORE n7
  have S_STORE := Sta.start ev_STORE (Or.inr ⟨(hw _ (List.mem_of_getElem? (i := 3) rfl)), (hw _ (List.mem_of_getElem? (i := 19) rfl))⟩)
  obtain ⟨a_READ, ev_READ⟩ := exa_v n9
  have X_READ := Exa.start ev_READ n9
  have S_READ := Sta.start ev_READ (Or.inr ⟨(hw _ (List.mem_of_getElem? (i := 3) rfl)), (hw _ (List.mem_of_getElem? (i := 20) rfl))⟩)
  obtain ⟨a_COUNT, ev_COUNT⟩ := exa_v n11
  have X_COUNT := Exa.start ev_COUNT n11
  have S_COUNT := Sta.start ev_COUNT (Or.inr ⟨(hw _ (List.mem_of_getElem? (i := 3) rfl)), (hw _ (List.mem_of_getElem? (i := 21) rfl))⟩)
  obtain ⟨a_JOIN, ev_JOIN⟩ := exa_v n13
  have X_JOIN := Exa.start ev_JOIN n13
  have S_JOIN := Sta.start ev_JOIN (Or.inr ⟨(hw _ (List.mem_of_getElem? (i := 3) rfl)), (hw _ (List.mem_of_getElem? (i := 22) rfl))⟩)
  obtain ⟨a_PING, ev_PING⟩ := exa_v n15
  have X_PING := Exa.start ev_PING n15
  have S_PING := Sta.start ev_PING (Or.inr ⟨(hw _ (List.mem_of_getElem? (i := 3) rfl)), (hw _ (List.mem_of_getElem? (i := 23) rfl))⟩)
  obtain ⟨a_CATCH_UP, ev_CATCH_UP⟩ := exa_v n17
  have X_CATCH_UP := Exa.start ev_CATCH_UP n17
  have S_CATCH_UP := Sta.start ev_CATCH_UP (Or.inr ⟨(hw _ (List.mem_of_getElem? (i := 3) rfl)), (hw _ (List.mem_of_getElem? (i := 24) rfl))⟩)
  obtain ⟨a_HAND_OFF, ev_HAND_OFF⟩ := exa_v n19
  have X_HAND_OFF := Exa.start ev_HAND_OFF n19
  have S_HAND_OFF := Sta.start ev_HAND_OFF (Or.inr ⟨(hw _ (List.mem_of_getElem? (i := 3) rfl)), (hw _ (List.mem_of_getElem? (i := 25) rfl))⟩)
  obtain ⟨a_LOAD, ev_LOAD⟩ := exa_v n21
  have X_LOAD := Exa.start ev_LOAD n21
  have S_LOAD := Sta.start ev_LOAD (Or.inr ⟨(hw _ (List.mem_of_getElem? (i := 3) rfl)), (hw _ (List.mem_of_getElem? (i := 26) rfl))⟩)
  obtain ⟨a_QUERY, ev_QUERY⟩ := exa_v n23
  have X_QUERY := Exa.start ev_QUERY n23
  have S_QUERY := Sta.start ev_QUERY (Or.inr ⟨(hw _ (List.mem_of_getElem? (i := 3) rfl)), (hw _ (List.mem_of_getElem? (i := 27) rfl))⟩)
  obtain ⟨a_STATUS, ev_STATUS⟩ := exa_v n25
  have X_STATUS := Exa.start ev_STATUS n25
  have S_STATUS := Sta.start ev_STATUS (Or.inr ⟨(hw _ (List.mem_of_getElem? (i := 3) rfl)), (hw _ (List.mem_of_getElem? (i := 28) rfl))⟩)
  have F_MEMBERS_code := Fld.start ((fld_at ev_MEMBERS).symm.trans (own_eqI n27))
  have F_PULL_code := Fld.start ((fld_at ev_PULL).symm.trans (own_eqI n28))
  have F_STORE_code := Fld.start ((fld_at ev_STORE).symm.trans (own_eqI n29))
  have F_READ_code := Fld.start ((fld_at ev_READ).symm.trans (own_eqI n30))
  have F_COUNT_code := Fld.start ((fld_at ev_COUNT).symm.trans (own_eqI n31))
  have F_JOIN_code := Fld.start ((fld_at ev_JOIN).symm.trans (own_eqI n32))
  have F_PING_code := Fld.start ((fld_at ev_PING).symm.trans (own_eqI n33))
  have F_CATCH_UP_code := Fld.start ((fld_at ev_CATCH_UP).symm.trans (own_eqI n34))
  have F_HAND_OFF_code := Fld.start ((fld_at ev_HAND_OFF).symm.trans (own_eqI n35))
  have F_LOAD_code := Fld.start ((fld_at ev_LOAD).symm.trans (own_eqI n36))
  have F_QUERY_code := Fld.start ((fld_at ev_QUERY).symm.trans (own_eqI n37))
  have F_STATUS_code := Fld.start ((fld_at ev_STATUS).symm.trans (own_eqI hn37))
  obtain ⟨cl_VALUES, Ar_VALUES, sz_VALUES, ln_VALUES⟩ := own_arr n0 ev_VALUES n2
  have el_VALUES_0 := (elem_in (own_eqR n4 ev_MEMBERS) ev_VALUES (Term.int_eval _) Ar_VALUES.1).2
  have el_VALUES_1 := (elem_in (own_eqR n6 ev_PULL) ev_VALUES (Term.int_eval _) Ar_VALUES.1).2
  have el_VALUES_2 := (elem_in (own_eqR n8 ev_STORE) ev_VALUES (Term.int_eval _) Ar_VALUES.1).2
  have el_VALUES_3 := (elem_in (own_eqR n10 ev_READ) ev_VALUES (Term.int_eval _) Ar_VALUES.1).2
  have el_VALUES_4 := (elem_in (own_eqR n12 ev_COUNT) ev_VALUES (Term.int_eval _) Ar_VALUES.1).2
  have el_VALUES_5 := (elem_in (own_eqR n14 ev_JOIN) ev_VALUES (Term.int_eval _) Ar_VALUES.1).2
  have el_VALUES_6 := (elem_in (own_eqR n16 ev_PING) ev_VALUES (Term.int_eval _) Ar_VALUES.1).2
  have el_VALUES_7 := (elem_in (own_eqR n18 ev_CATCH_UP) ev_VALUES (Term.int_eval _) Ar_VALUES.1).2
  have el_VALUES_8 := (elem_in (own_eqR n20 ev_HAND_OFF) ev_VALUES (Term.int_eval _) Ar_VALUES.1).2
  have el_VALUES_9 := (elem_in (own_eqR n22 ev_LOAD) ev_VALUES (Term.int_eval _) Ar_VALUES.1).2
  have el_VALUES_10 := (elem_in (own_eqR n24 ev_QUERY) ev_VALUES (Term.int_eval _) Ar_VALUES.1).2
  have el_VALUES_11 := (elem_in (own_eqR n26 ev_STATUS) ev_VALUES (Term.int_eval _) Ar_VALUES.1).2
  have V_VALUES : Arv s s.heap a_VALUES cl_VALUES.cls (.object "com/example/chainmesh/chainmesh/Op") (12 : Int32) [(.ref a_MEMBERS), (.ref a_PULL), (.ref a_STORE), (.ref a_READ), (.ref a_COUNT), (.ref a_JOIN), (.ref a_PING), (.ref a_CATCH_UP), (.ref a_HAND_OFF), (.ref a_LOAD), (.ref a_QUERY), (.ref a_STATUS)] .null := Arv.start hfit Ar_VALUES sz_VALUES ln_VALUES (by decide) rfl ⟨el_VALUES_0, el_VALUES_1, el_VALUES_2, el_VALUES_3, el_VALUES_4, el_VALUES_5, el_VALUES_6, el_VALUES_7, el_VALUES_8, el_VALUES_9, el_VALUES_10, el_VALUES_11, trivial⟩
  obtain ⟨n, o, h1, h2, h3, _, L, rfl, ⟨rfl, N⟩, hq⟩ := rm0 l s _ hw tables_1 i0 a_VALUES cl_VALUES.cls a_MEMBERS a_PULL a_STORE a_READ a_COUNT a_JOIN a_PING a_CATCH_UP a_HAND_OFF a_LOAD a_QUERY a_STATUS s.heap s.heap.size (Nat.le_refl _) S_VALUES V_VALUES X_VALUES F_MEMBERS_code F_PULL_code F_STORE_code F_READ_code F_COUNT_code F_JOIN_code F_PING_code F_CATCH_UP_code F_HAND_OFF_code F_LOAD_code F_QUERY_code F_STATUS_code S_MEMBERS S_PULL S_STORE S_READ S_COUNT S_JOIN S_PING S_CATCH_UP S_HAND_OFF S_LOAD S_QUERY S_STATUS X_MEMBERS X_PULL X_STORE X_READ X_COUNT X_JOIN X_PING X_CATCH_UP X_HAND_OFF X_LOAD X_QUERY X_STATUS p e ha hc hk s m _ below hf ((Spec.applies_iff_loose hf).mp happ).1 ⟨rfl, State.Warmed39.refl s, rfl⟩ trivial
  refine ⟨n, _, h1, h2, h3, hpost _ _ _ _ _ _ ⟨Cond.after_iff.mpr rfl, Cond.after_iff.mpr (eq_i res_at (Term.int_eval (1)) rfl), trivial⟩ ⟨hq.1, hq.2.1, (hq.2.2.sift fun y hy => Or.inr (N y hy)).mono (by decide) (by decide)⟩⟩
theorem main_1_1 : Claimed_1_1 := comes_1 fun _ _ _ _ _ _ h hF => ⟨h.1, hF⟩
theorem main_1_2 : Claimed_1_2 := comes_1 fun _ _ _ _ _ _ h hF => ⟨h.2.1, hF⟩
end Jvm.Pilot.@@N@@
namespace Jvm.Pilot.@@N@@
open Jvm Jvm.ClassFile Sem Op Lib Jvm.Free Jvm.Stand Jvm.Pilot.@@N@@.Jvm.D
/-! MADE BY PROGRAM (witnessworld.py) out of the Statement's table words and the real class files: 13 classes; the members and pool entries that the words name. The judged class is class 1, her method 2. -/
namespace start1
open Jvm.ClassFile
def u (s : String) : CpInfo := .utf8 (stringToUtf16 s)
/-- a pool by its gaps: so many unusable entries, then the entry; so many at the end -/
def gap : Nat → List CpInfo → List CpInfo
  | 0, r => r
  | n + 1, r => .unusable :: gap n r
def poolList (es : List (Nat × CpInfo)) (last : Nat) : List CpInfo := es.foldr (fun e r => gap e.1 (e.2 :: r)) (gap last [])
def pool (es : List (Nat × CpInfo)) (last : Nat) : Array CpInfo := ⟨poolList es last⟩
def fileOf (pool : Array CpInfo) (this : Nat) (attrs : Array Attribute := #[]) (ms : Array MethodInfo := #[]) (fl : Nat := 33) (sup : Nat := 0) (ifs : Array Nat := #[]) (fds : Array FieldInfo := #[]) : ClassFile where
  minorVersion := 0
  majorVersion := 65
  constantPool := pool
  accessFlags := fl
  thisClass := this
  superClass := sup
  interfaces := ifs
  fields := fds
  methods := ms
  attributes := attrs
def plain (name : String) (sup : Option ClassId) : Class where
  name := name
  kind := .ordinary
  loader := none
  accessFlags := 33
  super := sup
  interfaces := #[]
  cf := none
  fields := #[]
  methods := #[]
  instanceTypes := #[]
  staticTypes := #[]
  resolved := #[]
  callSites := []
  init := .initialized
  statics := none
  mirror := none

def pool0 : Array CpInfo := pool [(5, u "<init>"), (0, u "()V"), (1, .class_ 10), (1, u "java/lang/Object"), (85, u "clone"), (0, u "()Ljava/lang/Object;")] 26

def k0m0 : Method := { name := "<init>", desc := "()V", sig := { parameters := [], returnType := none }, accessFlags := 1, code := none }
def k0m1 : Method := { name := "clone", desc := "()Ljava/lang/Object;", sig := { parameters := [], returnType := some (.object "java/lang/Object") }, accessFlags := 260, code := none }
/-- java/lang/Object -/
def k0 : Class := { plain "java/lang/Object" none with
  accessFlags := 33
  interfaces := #[]
  cf := some (fileOf pool0 8 #[] #[{ accessFlags := 1, nameIndex := 5, descriptorIndex := 6, attributes := #[] }, { accessFlags := 260, nameIndex := 96, descriptorIndex := 97, attributes := #[] }] 33 0 #[] #[])
  fields := #[]
  methods := #[k0m0, k0m1]
  instanceTypes := #[]
  staticTypes := #[]
  resolved := Array.replicate 124 none
  statics := none }

def pool1 : Array CpInfo := pool [(2, .class_ 4), (1, u "java/lang/Object"), (0, u "<init>"), (0, u "()V"), (0, .fieldref 8 9), (0, .class_ 10), (0, .nameAndType 11 12), (0, u "com/example/chainmesh/chainmesh/Op"), (0, u "MEMBERS"), (0, u "Lcom/example/chainmesh/chainmesh/Op;"), (0, .fieldref 8 14), (0, .nameAndType 15 12), (0, u "PULL"), (0, .fieldref 8 17), (0, .nameAndType 18 12), (0, u "STORE"), (0, .fieldref 8 20), (0, .nameAndType 21 12), (0, u "READ"), (0, .fieldref 8 23), (0, .nameAndType 24 12), (0, u "COUNT"), (0, .fieldref 8 26), (0, .nameAndType 27 12), (0, u "JOIN"), (0, .fieldref 8 29), (0, .nameAndType 30 12), (0, u "PING"), (0, .fieldref 8 32), (0, .nameAndType 33 12), (0, u "CATCH_UP"), (0, .fieldref 8 35), (0, .nameAndType 36 12), (0, u "HAND_OFF"), (0, .fieldref 8 38), (0, .nameAndType 39 12), (0, u "LOAD"), (0, .fieldref 8 41), (0, .nameAndType 42 12), (0, u "QUERY"), (0, .fieldref 8 44), (0, .nameAndType 45 12), (0, u "STATUS"), (0, .integer 2147483647), (0, .methodref 8 48), (0, .nameAndType 49 50), (0, u "of"), (0, u "(B)Lcom/example/chainmesh/chainmesh/Op;"), (0, .methodref 52 53), (0, .class_ 54), (0, .nameAndType 55 56), (0, u "com/example/chainmesh/chainmesh/OpOfPinLaw"), (0, u "expected"), (0, u "(I)Lcom/example/chainmesh/chainmesh/Op;"), (0, .methodref 8 58), (0, .nameAndType 59 60), (0, u "code"), (0, u "()B"), (3, u "law"), (0, u "(I)Z")] 2

def k1m0 : Method := { name := "<init>", desc := "()V", sig := { parameters := [], returnType := none }, accessFlags := 2, code := none }
def k1c1 : Code := { maxStack := 2, maxLocals := 1, code := method_2_code, exceptionTable := #[], attributes := #[] }
def k1m1 : Method := { name := "expected", desc := "(I)Lcom/example/chainmesh/chainmesh/Op;", sig := { parameters := [.int], returnType := some (.object "com/example/chainmesh/chainmesh/Op") }, accessFlags := 10, code := some k1c1 }
def k1c2 : Code := { maxStack := 3, maxLocals := 4, code := code, exceptionTable := #[], attributes := #[] }
def k1m2 : Method := { name := "law", desc := "(I)Z", sig := { parameters := [.int], returnType := some .boolean }, accessFlags := 9, code := some k1c2 }
/-- com/example/chainmesh/chainmesh/OpOfPinLaw -/
def k1 : Class := { plain "com/example/chainmesh/chainmesh/OpOfPinLaw" (some 0) with
  accessFlags := 49
  interfaces := #[]
  cf := some (fileOf pool1 52 #[] #[{ accessFlags := 2, nameIndex := 5, descriptorIndex := 6, attributes := #[] }, { accessFlags := 10, nameIndex := 55, descriptorIndex := 56, attributes := #[] }, { accessFlags := 9, nameIndex := 64, descriptorIndex := 65, attributes := #[] }] 49 2 #[] #[])
  fields := #[]
  methods := #[k1m0, k1m1, k1m2]
  instanceTypes := #[]
  staticTypes := #[]
  resolved := Array.replicate 68 none
  statics := none }

def pool2 : Array CpInfo := pool [(1, .class_ 2), (0, u "java/lang/constant/Constable"), (0, .class_ 4), (0, u "java/lang/Object")] 6

/-- java/lang/constant/Constable -/
def k2 : Class := { plain "java/lang/constant/Constable" (some 0) with
  accessFlags := 1537
  interfaces := #[]
  cf := some (fileOf pool2 1 #[] #[] 1537 3 #[] #[])
  fields := #[]
  methods := #[]
  instanceTypes := #[]
  staticTypes := #[]
  resolved := Array.replicate 11 none
  statics := none }

def pool3 : Array CpInfo := pool [(1, .class_ 2), (0, u "java/lang/Comparable"), (0, .class_ 4), (0, u "java/lang/Object")] 7

/-- java/lang/Comparable -/
def k3 : Class := { plain "java/lang/Comparable" (some 0) with
  accessFlags := 1537
  interfaces := #[]
  cf := some (fileOf pool3 1 #[] #[] 1537 3 #[] #[])
  fields := #[]
  methods := #[]
  instanceTypes := #[]
  staticTypes := #[]
  resolved := Array.replicate 12 none
  statics := none }

def pool4 : Array CpInfo := pool [(1, .class_ 2), (0, u "java/io/Serializable"), (0, .class_ 4), (0, u "java/lang/Object")] 2

/-- java/io/Serializable -/
def k4 : Class := { plain "java/io/Serializable" (some 0) with
  accessFlags := 1537
  interfaces := #[]
  cf := some (fileOf pool4 1 #[] #[] 1537 3 #[] #[])
  fields := #[]
  methods := #[]
  instanceTypes := #[]
  staticTypes := #[]
  resolved := Array.replicate 7 none
  statics := none }

def pool5 : Array CpInfo := pool [(2, .class_ 4), (1, u "java/lang/Enum"), (0, u "name"), (0, u "Ljava/lang/String;"), (2, u "ordinal"), (0, u "I"), (1, .class_ 14), (1, u "java/lang/Object"), (4, u "hash"), (86, .class_ 108), (1, u "java/lang/Enum$EnumDesc"), (2, .class_ 112), (0, u "java/lang/constant/Constable"), (0, .class_ 114), (0, u "java/lang/Comparable"), (0, .class_ 116), (0, u "java/io/Serializable")] 87

/-- java/lang/Enum -/
def k5 : Class := { plain "java/lang/Enum" (some 0) with
  accessFlags := 1057
  interfaces := #[2, 3, 4]
  cf := some (fileOf pool5 2 #[.nestMembers #[106]] #[] 1057 12 #[111, 113, 115] #[{ accessFlags := 18, nameIndex := 5, descriptorIndex := 6, attributes := #[] }, { accessFlags := 18, nameIndex := 9, descriptorIndex := 10, attributes := #[] }, { accessFlags := 2, nameIndex := 19, descriptorIndex := 10, attributes := #[] }])
  fields := #[{ name := "name", type := (.object "java/lang/String"), accessFlags := 18, slot := 0, constantValue := 0 }, { name := "ordinal", type := .int, accessFlags := 18, slot := 1, constantValue := 0 }, { name := "hash", type := .int, accessFlags := 2, slot := 2, constantValue := 0 }]
  methods := #[]
  instanceTypes := #[(.object "java/lang/String"), .int, .int]
  staticTypes := #[]
  resolved := Array.replicate 204 none
  statics := none }

def pool6 : Array CpInfo := pool [(1, .class_ 2), (0, u "com/example/chainmesh/chainmesh/Op"), (2, u "MEMBERS"), (0, u "Lcom/example/chainmesh/chainmesh/Op;"), (2, u "PULL"), (2, u "STORE"), (2, u "READ"), (2, u "COUNT"), (2, u "JOIN"), (2, u "PING"), (2, u "CATCH_UP"), (2, u "HAND_OFF"), (2, u "LOAD"), (2, u "QUERY"), (2, u "STATUS"), (0, .fieldref 1 41), (0, .nameAndType 42 43), (0, u "$VALUES"), (0, u "[Lcom/example/chainmesh/chainmesh/Op;"), (0, .methodref 45 46), (0, .class_ 43), (0, .nameAndType 47 48), (0, u "clone"), (0, u "()Ljava/lang/Object;"), (1, .class_ 52), (1, u "java/lang/Enum"), (6, .fieldref 1 60), (0, .nameAndType 61 62), (0, u "code"), (0, u "B"), (0, .methodref 1 64), (0, .nameAndType 65 66), (0, u "values"), (0, u "()[Lcom/example/chainmesh/chainmesh/Op;"), (33, u "()B"), (0, u "of"), (0, u "(B)Lcom/example/chainmesh/chainmesh/Op;")] 21

def k6c0 : Code := { maxStack := 1, maxLocals := 0, code := prog_31_method_1_code, exceptionTable := #[], attributes := #[] }
def k6m0 : Method := { name := "values", desc := "()[Lcom/example/chainmesh/chainmesh/Op;", sig := { parameters := [], returnType := some (.array (.object "com/example/chainmesh/chainmesh/Op")) }, accessFlags := 9, code := some k6c0 }
def k6c1 : Code := { maxStack := 1, maxLocals := 1, code := prog_31_method_4_code, exceptionTable := #[], attributes := #[] }
def k6m1 : Method := { name := "code", desc := "()B", sig := { parameters := [], returnType := some .byte }, accessFlags := 0, code := some k6c1 }
def k6c2 : Code := { maxStack := 3, maxLocals := 5, code := prog_31_method_5_code, exceptionTable := #[], attributes := #[] }
def k6m2 : Method := { name := "of", desc := "(B)Lcom/example/chainmesh/chainmesh/Op;", sig := { parameters := [.byte], returnType := some (.object "com/example/chainmesh/chainmesh/Op") }, accessFlags := 8, code := some k6c2 }
/-- com/example/chainmesh/chainmesh/Op -/
def k6 : Class := { plain "com/example/chainmesh/chainmesh/Op" (some 5) with
  accessFlags := 16432
  interfaces := #[]
  cf := some (fileOf pool6 1 #[] #[{ accessFlags := 9, nameIndex := 65, descriptorIndex := 66, attributes := #[] }, { accessFlags := 0, nameIndex := 61, descriptorIndex := 100, attributes := #[] }, { accessFlags := 8, nameIndex := 101, descriptorIndex := 102, attributes := #[] }] 16432 50 #[] #[{ accessFlags := 16409, nameIndex := 5, descriptorIndex := 6, attributes := #[] }, { accessFlags := 16409, nameIndex := 9, descriptorIndex := 6, attributes := #[] }, { accessFlags := 16409, nameIndex := 12, descriptorIndex := 6, attributes := #[] }, { accessFlags := 16409, nameIndex := 15, descriptorIndex := 6, attributes := #[] }, { accessFlags := 16409, nameIndex := 18, descriptorIndex := 6, attributes := #[] }, { accessFlags := 16409, nameIndex := 21, descriptorIndex := 6, attributes := #[] }, { accessFlags := 16409, nameIndex := 24, descriptorIndex := 6, attributes := #[] }, { accessFlags := 16409, nameIndex := 27, descriptorIndex := 6, attributes := #[] }, { accessFlags := 16409, nameIndex := 30, descriptorIndex := 6, attributes := #[] }, { accessFlags := 16409, nameIndex := 33, descriptorIndex := 6, attributes := #[] }, { accessFlags := 16409, nameIndex := 36, descriptorIndex := 6, attributes := #[] }, { accessFlags := 16409, nameIndex := 39, descriptorIndex := 6, attributes := #[] }, { accessFlags := 18, nameIndex := 61, descriptorIndex := 62, attributes := #[] }, { accessFlags := 4122, nameIndex := 42, descriptorIndex := 43, attributes := #[] }])
  fields := #[{ name := "MEMBERS", type := (.object "com/example/chainmesh/chainmesh/Op"), accessFlags := 16409, slot := 0, constantValue := 0 }, { name := "PULL", type := (.object "com/example/chainmesh/chainmesh/Op"), accessFlags := 16409, slot := 1, constantValue := 0 }, { name := "STORE", type := (.object "com/example/chainmesh/chainmesh/Op"), accessFlags := 16409, slot := 2, constantValue := 0 }, { name := "READ", type := (.object "com/example/chainmesh/chainmesh/Op"), accessFlags := 16409, slot := 3, constantValue := 0 }, { name := "COUNT", type := (.object "com/example/chainmesh/chainmesh/Op"), accessFlags := 16409, slot := 4, constantValue := 0 }, { name := "JOIN", type := (.object "com/example/chainmesh/chainmesh/Op"), accessFlags := 16409, slot := 5, constantValue := 0 }, { name := "PING", type := (.object "com/example/chainmesh/chainmesh/Op"), accessFlags := 16409, slot := 6, constantValue := 0 }, { name := "CATCH_UP", type := (.object "com/example/chainmesh/chainmesh/Op"), accessFlags := 16409, slot := 7, constantValue := 0 }, { name := "HAND_OFF", type := (.object "com/example/chainmesh/chainmesh/Op"), accessFlags := 16409, slot := 8, constantValue := 0 }, { name := "LOAD", type := (.object "com/example/chainmesh/chainmesh/Op"), accessFlags := 16409, slot := 9, constantValue := 0 }, { name := "QUERY", type := (.object "com/example/chainmesh/chainmesh/Op"), accessFlags := 16409, slot := 10, constantValue := 0 }, { name := "STATUS", type := (.object "com/example/chainmesh/chainmesh/Op"), accessFlags := 16409, slot := 11, constantValue := 0 }, { name := "code", type := .byte, accessFlags := 18, slot := 3, constantValue := 0 }, { name := "$VALUES", type := (.array (.object "com/example/chainmesh/chainmesh/Op")), accessFlags := 4122, slot := 12, constantValue := 0 }]
  methods := #[k6m0, k6m1, k6m2]
  instanceTypes := #[(.object "java/lang/String"), .int, .int, .byte]
  staticTypes := #[(.object "com/example/chainmesh/chainmesh/Op"), (.object "com/example/chainmesh/chainmesh/Op"), (.object "com/example/chainmesh/chainmesh/Op"), (.object "com/example/chainmesh/chainmesh/Op"), (.object "com/example/chainmesh/chainmesh/Op"), (.object "com/example/chainmesh/chainmesh/Op"), (.object "com/example/chainmesh/chainmesh/Op"), (.object "com/example/chainmesh/chainmesh/Op"), (.object "com/example/chainmesh/chainmesh/Op"), (.object "com/example/chainmesh/chainmesh/Op"), (.object "com/example/chainmesh/chainmesh/Op"), (.object "com/example/chainmesh/chainmesh/Op"), (.array (.object "com/example/chainmesh/chainmesh/Op"))]
  resolved := Array.replicate 124 none
  statics := some 0 }

def pool7 : Array CpInfo := pool [(1, .class_ 2), (0, u "java/lang/Cloneable"), (0, .class_ 4), (0, u "java/lang/Object")] 2

/-- java/lang/Cloneable -/
def k7 : Class := { plain "java/lang/Cloneable" (some 0) with
  accessFlags := 1537
  interfaces := #[]
  cf := some (fileOf pool7 1 #[] #[] 1537 3 #[] #[])
  fields := #[]
  methods := #[]
  instanceTypes := #[]
  staticTypes := #[]
  resolved := Array.replicate 7 none
  statics := none }

/-- the primitive byte -/
def k8 : Class := { plain "byte" none with kind := .primitive 'B', accessFlags := 0x411 }
/-- [B -/
def k9 : Class := { plain "[B" (some 0) with kind := .array 8 .byte, interfaces := #[7, 4], accessFlags := 1041 }

/-- the primitive int -/
def k10 : Class := { plain "int" none with kind := .primitive 'I', accessFlags := 0x411 }
/-- [I -/
def k11 : Class := { plain "[I" (some 0) with kind := .array 10 .int, interfaces := #[7, 4], accessFlags := 1041 }

/-- [Lcom/example/chainmesh/chainmesh/Op; -/
def k12 : Class := { plain "[Lcom/example/chainmesh/chainmesh/Op;" (some 0) with kind := .array 6 (.object "com/example/chainmesh/chainmesh/Op"), interfaces := #[7, 4], accessFlags := 1041 }

def heap : Heap := #[{ cls := 6, slots := #[.ref 2, .ref 3, .ref 4, .ref 5, .ref 6, .ref 7, .ref 8, .ref 9, .ref 10, .ref 11, .ref 12, .ref 13, .ref 1], vm := .statics 6 },
  { cls := 12, slots := #[.ref 2, .ref 3, .ref 4, .ref 5, .ref 6, .ref 7, .ref 8, .ref 9, .ref 10, .ref 11, .ref 12, .ref 13], vm := .none },
  { cls := 6, slots := #[.null, .int 0, .int 0, .int 1], vm := .none },
  { cls := 6, slots := #[.null, .int 1, .int 0, .int 2], vm := .none },
  { cls := 6, slots := #[.null, .int 2, .int 0, .int 3], vm := .none },
  { cls := 6, slots := #[.null, .int 3, .int 0, .int 4], vm := .none },
  { cls := 6, slots := #[.null, .int 4, .int 0, .int 5], vm := .none },
  { cls := 6, slots := #[.null, .int 5, .int 0, .int 6], vm := .none },
  { cls := 6, slots := #[.null, .int 6, .int 0, .int 7], vm := .none },
  { cls := 6, slots := #[.null, .int 7, .int 0, .int 8], vm := .none },
  { cls := 6, slots := #[.null, .int 8, .int 0, .int 9], vm := .none },
  { cls := 6, slots := #[.null, .int 9, .int 0, .int 10], vm := .none },
  { cls := 6, slots := #[.null, .int 10, .int 0, .int 11], vm := .none },
  { cls := 6, slots := #[.null, .int 11, .int 0, .int 12], vm := .none }]
def classes : Array Class := #[k0, k1, k2, k3, k4, k5, k6, k7, k8, k9, k10, k11, k12]
def interned : List (Array UInt16 × Addr) := []
def slotsUsed : Nat := 73
def theMethod : MethodId := ⟨1, 2⟩
def args0 : Array Value := #[.int 5]
def aboutOver (below : List Frame) : State where
  vm := { classes := classes, interned := interned.toArray }
  heap := heap
  slotsUsed := slotsUsed
  threads := #[{ frames := .invoking theMethod args0 :: below }]
def below0 : List Frame := [.native { method := ⟨0, 0⟩, args := #[] }]
def about1 : State := aboutOver below0
def p0 : Program := .bare "" "" ""
def e0 : Env := launch0.env 0 0 0
theorem w_frames : about1.frames = Frame.invoking theMethod args0 :: below0 := rfl
set_option maxRecDepth 65536 in
theorem w_args : argsFit about1.vm theMethod args0 = true := by decide +kernel
set_option maxRecDepth 65536 in
theorem w_heap : heapFits about1 = true := by decide +kernel
set_option maxRecDepth 65536 in
theorem w_runnable : about1.curStatus? = some .runnable := by decide +kernel
set_option maxRecDepth 65536 in
theorem w_alone : about1.alone = true := by decide +kernel
set_option maxRecDepth 65536 in
theorem w_named : about1.methodNamed? x = some theMethod := by decide +kernel
set_option maxRecDepth 65536 in
theorem w_hears : about1.hears theMethod below0 = true := by decide +kernel
set_option maxRecDepth 65536 in
theorem w_ripe : about1.ripe theMethod args0 below0 = true := by decide +kernel
theorem w_running : about1.status = .running := rfl
set_option maxRecDepth 65536 in
theorem w_room : about1.hasRoom e0.platform room_1 = true :=
  launch0.hasRoom_least _ room_1 (by decide +kernel) (by decide +kernel) (by decide +kernel) (by decide +kernel) (by decide +kernel) (by decide +kernel)
theorem allAtoms_all (ts : List Jvm.Cond) (a : Array Jvm.Value) (st : Jvm.State) : (allAtoms ts).before a st = ts.all (fun c => c.before a st) := by
  induction ts with
  | nil => rfl
  | cons c t ih =>
    show (Jvm.Cond.and c (allAtoms t)).before a st = _
    rw [Jvm.Cond.before_and, ih, List.all_cons]
def words1 : List Jvm.Cond := Jvm.Cond.code x code maxLocals ret :: tables_1
/-- a 'code' word, met by the world's own term for the bytes: nothing is compared byte by byte -/
theorem code_word {y : MethodName} {bytes : ByteArray} {mx : Nat} {rt : Option FieldType} {a : Array Value} {s : State} {m : MethodId} {meth : Method} {c : Code} (h1 : s.methodNamed? y = some m) (h2 : s.vm.method? m = some meth) (h3 : meth.code = some c) (h4 : c.code = bytes)
    (h5 : (c.maxLocals == mx && c.exceptionTable.isEmpty && decide (c.maxStack ≤ mostOperands) && decide (meth.sig.returnType = rt) && !meth.locks && decide (parseMethodDescriptor y.desc = some meth.sig)) = true) : (Jvm.Cond.code y bytes mx rt).before a s = true := by
  simp only [Bool.and_eq_true, beq_iff_eq, Bool.not_eq_true', decide_eq_true_eq] at h5
  obtain ⟨⟨⟨⟨⟨g1, g2⟩, g3⟩, g4⟩, g5⟩, g6⟩ := h5
  simp [Cond.before, Cond.holds, Cond.value, h1, h2, h3, h4, g1, g2, g3, g4, g5, g6]
def isCode : Jvm.Cond → Bool
  | .code _ _ _ _ => true
  | _ => false
theorem all_split {L : List Jvm.Cond} {P : Jvm.Cond → Bool} (h1 : L.all (fun c => isCode c || P c) = true) (h2 : ∀ c ∈ L.filter isCode, P c = true) : L.all P = true := by
  refine List.all_eq_true.mpr fun c hc => ?_
  have h := List.all_eq_true.mp h1 c hc
  rcases Bool.eq_false_or_eq_true (isCode c) with hi | hi
  · exact h2 c (List.mem_filter.mpr ⟨hc, hi⟩)
  · simpa [hi] using h
set_option maxRecDepth 65536 in
theorem w_c0 : (Jvm.Cond.code x code maxLocals ret).before args0 about1 = true := code_word (m := ⟨1, 2⟩) (meth := k1m2) (c := k1c2) (by decide +kernel) rfl rfl rfl (by decide +kernel)
set_option maxRecDepth 65536 in
theorem w_c1 : (Jvm.Cond.code ({ cls := "com/example/chainmesh/chainmesh/Op", name := "of", desc := "(B)Lcom/example/chainmesh/chainmesh/Op;" } : Jvm.MethodName) prog_31_method_5_code (5 : Nat) (Option.some (Jvm.ClassFile.FieldType.object "com/example/chainmesh/chainmesh/Op"))).before args0 about1 = true := code_word (m := ⟨6, 2⟩) (meth := k6m2) (c := k6c2) (by decide +kernel) rfl rfl rfl (by decide +kernel)
set_option maxRecDepth 65536 in
theorem w_c2 : (Jvm.Cond.code ({ cls := "com/example/chainmesh/chainmesh/Op", name := "values", desc := "()[Lcom/example/chainmesh/chainmesh/Op;" } : Jvm.MethodName) prog_31_method_1_code (0 : Nat) (Option.some (Jvm.ClassFile.FieldType.array (Jvm.ClassFile.FieldType.object "com/example/chainmesh/chainmesh/Op")))).before args0 about1 = true := code_word (m := ⟨6, 0⟩) (meth := k6m0) (c := k6c0) (by decide +kernel) rfl rfl rfl (by decide +kernel)
set_option maxRecDepth 65536 in
theorem w_c3 : (Jvm.Cond.code ({ cls := "com/example/chainmesh/chainmesh/OpOfPinLaw", name := "expected", desc := "(I)Lcom/example/chainmesh/chainmesh/Op;" } : Jvm.MethodName) method_2_code (1 : Nat) (Option.some (Jvm.ClassFile.FieldType.object "com/example/chainmesh/chainmesh/Op"))).before args0 about1 = true := code_word (m := ⟨1, 1⟩) (meth := k1m1) (c := k1c1) (by decide +kernel) rfl rfl rfl (by decide +kernel)
set_option maxRecDepth 65536 in
theorem w_c4 : (Jvm.Cond.code ({ cls := "com/example/chainmesh/chainmesh/Op", name := "code", desc := "()B" } : Jvm.MethodName) prog_31_method_4_code (1 : Nat) (Option.some Jvm.ClassFile.FieldType.byte)).before args0 about1 = true := code_word (m := ⟨6, 1⟩) (meth := k6m1) (c := k6c1) (by decide +kernel) rfl rfl rfl (by decide +kernel)
def codes1 : List Jvm.Cond := [Jvm.Cond.code x code maxLocals ret, Jvm.Cond.code ({ cls := "com/example/chainmesh/chainmesh/Op", name := "of", desc := "(B)Lcom/example/chainmesh/chainmesh/Op;" } : Jvm.MethodName) prog_31_method_5_code (5 : Nat) (Option.some (Jvm.ClassFile.FieldType.object "com/example/chainmesh/chainmesh/Op")), Jvm.Cond.code ({ cls := "com/example/chainmesh/chainmesh/Op", name := "values", desc := "()[Lcom/example/chainmesh/chainmesh/Op;" } : Jvm.MethodName) prog_31_method_1_code (0 : Nat) (Option.some (Jvm.ClassFile.FieldType.array (Jvm.ClassFile.FieldType.object "com/example/chainmesh/chainmesh/Op"))), Jvm.Cond.code ({ cls := "com/example/chainmesh/chainmesh/OpOfPinLaw", name := "expected", desc := "(I)Lcom/example/chainmesh/chainmesh/Op;" } : Jvm.MethodName) method_2_code (1 : Nat) (Option.some (Jvm.ClassFile.FieldType.object "com/example/chainmesh/chainmesh/Op")), Jvm.Cond.code ({ cls := "com/example/chainmesh/chainmesh/Op", name := "code", desc := "()B" } : Jvm.MethodName) prog_31_method_4_code (1 : Nat) (Option.some Jvm.ClassFile.FieldType.byte)]
set_option maxRecDepth 65536 in
theorem codes_eq : words1.filter isCode = codes1 := rfl
theorem w_codes : ∀ c ∈ words1.filter isCode, c.before args0 about1 = true := by
  rw [codes_eq]
  intro c hc
  simp only [codes1, List.mem_cons, List.not_mem_nil, or_false] at hc
  rcases hc with rfl | rfl | rfl | rfl | rfl
  · exact w_c0
  · exact w_c1
  · exact w_c2
  · exact w_c3
  · exact w_c4
set_option maxRecDepth 65536 in
theorem w_t1 : (words1.take 24).all (fun c => isCode c || c.before args0 about1) = true := by decide +kernel
set_option maxRecDepth 65536 in
theorem w_t2 : ((words1.drop 24).take 24).all (fun c => isCode c || c.before args0 about1) = true := by decide +kernel
set_option maxRecDepth 65536 in
theorem w_t3 : ((words1.drop 24).drop 24).all (fun c => isCode c || c.before args0 about1) = true := by decide +kernel
theorem w_tables : (allAtoms (Jvm.Cond.code x code maxLocals ret :: tables_1)).before args0 about1 = true := by
  rw [allAtoms_all]
  show words1.all (fun c => c.before args0 about1) = true
  refine all_split ?_ w_codes
  rw [← List.take_append_drop 24 words1, List.all_append, w_t1, ← List.take_append_drop 24 (words1.drop 24), List.all_append, w_t2, w_t3]
  rfl
set_option maxRecDepth 65536 in
theorem w_case : (Jvm.Cond.and given_1 narrow_1).before args0 about1 = true := by decide +kernel
theorem w_applies : (headSpec (Jvm.Cond.code x code maxLocals ret :: tables_1) room_1).applies x e0.platform about1 = true :=
  (Spec.applies_iff w_frames).mpr ⟨w_running, w_runnable, w_alone, w_named, w_hears, w_ripe, w_room, w_tables⟩
theorem atStart : AtStart classFile x code maxLocals ret World_1 tables_1 room_1 Calls_1 rest_1 Pre_1 launch0 p0 e0 about1 theMethod args0 below0 :=
  ⟨lists_1, trivial, launch0.admits_env _ _ _, launch0.least_env, fairChoices_fair.cas, fairChoices_fair.clock, w_frames, w_args, w_heap, w_applies, trivial, trivial, w_case⟩
end start1
theorem witness_1 : WitnessClaimed_1 := ⟨start1.p0, start1.e0, start1.about1, start1.theMethod, start1.args0, start1.below0, start1.atStart⟩
end Jvm.Pilot.@@N@@
