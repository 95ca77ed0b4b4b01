import JvmDerived
import JvmDerived.Pilot.@@N@@Statement
import JvmDerived.Pilot.@@N@@Code
set_option linter.unusedVariables false
set_option linter.unusedSimpArgs false
namespace Jvm.RoadKit
open Sem ClassFile Op Lib Jvm.Stand Jvm.Free Jvm.LawKit
section OwnKit
variable {p : Program} {l : Launch} {e : Env} {R : Room} {s : State} {m : MethodId} {args : Array Value} {below : List Frame} {meth : Method} {c : Code} {T : State} {locs : List Loc} {cells slots : Nat}
def EndsQ (tb : Tables) (e : Env) (below : List Frame) (s : State) (Qv : Option Value → Heap → List Loc → Prop) (rc rs : Nat) (st : State) : Prop :=
  ∃ s₂ o, Steps tb e below st s₂ ∧ s₂.status = .running ∧ Ended s₂ below o ∧ ∃ v L, o = .returned v ∧ Qv v s₂.heap L ∧ FrameEnd s o s₂ L rc rs
theorem EndsQ.go {tb : Tables} {Qv : Option Value → Heap → List Loc → Prop} {rc rs : Nat} {a b : State} (k : ∀ t, Steps tb e below b t → Steps tb e below a t) (h : EndsQ tb e below s Qv rc rs b) : EndsQ tb e below s Qv rc rs a := by
  obtain ⟨s₂, o, h1, h2⟩ := h
  exact ⟨s₂, o, k _ h1, h2⟩
theorem EndsQ.out (X : Stand p l e R s m args below meth c T locs cells slots) (hlk : meth.locks = false) {Qv : Option Value → Heap → List Loc → Prop} {rc rs : Nat} {v : Option Value} {st : State} (hv : meth.sig.returnType = none → v = none)
    (hs : ∀ fs, (∀ (f : JFrame) (acts : List Action), f.method = m → f.locked = none → f.entered = [] → (doReturn e (T.setTop f) acts v).1 = T.setFrames fs) → Steps p.tables e below st (T.setFrames fs))
    (h1 : cells ≤ rc) (h2 : slots ≤ rs) (hq : Qv v T.heap locs) : EndsQ p.tables e below s Qv rc rs st := by
  obtain ⟨fs, hr, hrun, hended, hW, hsame⟩ := X.leave (v := v) hv hlk
  exact ⟨_, _, hs fs hr, hrun, hended, _, _, rfl, hq, ⟨_, rfl⟩, hW, hsame.mono h1 h2⟩
theorem EndsQ.retI (X : Stand p l e R s m args below meth c T locs cells slots) (hx : p.tables.exec = Jvm.exec) (hlk : meth.locks = false) {Qv : Option Value → Heap → List Loc → Prop} {rc rs pc : Nat} {Ls : Array Slot} {z : Int32} {rest : List Value} (hret : meth.sig.returnType = some .int) (hd : decode c.code pc = .ok (.ireturn, 1))
    (h1 : cells ≤ rc) (h2 : slots ≤ rs) (hq : Qv (some (.int z)) T.heap locs) : EndsQ p.tables e below s Qv rc rs (T.setTop (mkF m pc Ls (.int z :: rest))) := by
  refine EndsQ.out X hlk (v := some (.int z)) (fun h => by rw [hret] at h; cases h) (fun fs hr => ?_) h1 h2 hq
  exact retOut X hx hret rfl (Or.inl ⟨rfl, Or.inl rfl, z, rfl⟩) hd hr
theorem EndsQ.retJ (X : Stand p l e R s m args below meth c T locs cells slots) (hx : p.tables.exec = Jvm.exec) (hlk : meth.locks = false) {Qv : Option Value → Heap → List Loc → Prop} {rc rs pc : Nat} {Ls : Array Slot} {z : Int64} {rest : List Value} (hret : meth.sig.returnType = some .long) (hd : decode c.code pc = .ok (.lreturn, 1))
    (h1 : cells ≤ rc) (h2 : slots ≤ rs) (hq : Qv (some (.long z)) T.heap locs) : EndsQ p.tables e below s Qv rc rs (T.setTop (mkF m pc Ls (.long z :: rest))) := by
  refine EndsQ.out X hlk (v := some (.long z)) (fun h => by rw [hret] at h; cases h) (fun fs hr => ?_) h1 h2 hq
  exact retOut X hx hret rfl (Or.inr (Or.inl ⟨rfl, rfl, z, rfl⟩)) hd hr
theorem EndsQ.retA (X : Stand p l e R s m args below meth c T locs cells slots) (hx : p.tables.exec = Jvm.exec) (hlk : meth.locks = false) {Qv : Option Value → Heap → List Loc → Prop} {rc rs pc : Nat} {Ls : Array Slot} {w : Value} {t : FieldType} {rest : List Value} (hret : meth.sig.returnType = some t) (ht : t.isReference = true) (hw : w.isRef = true) (hn : narrow t w = w) (hd : decode c.code pc = .ok (.areturn, 1))
    (h1 : cells ≤ rc) (h2 : slots ≤ rs) (hq : Qv (some w) T.heap locs) : EndsQ p.tables e below s Qv rc rs (T.setTop (mkF m pc Ls (w :: rest))) := by
  refine EndsQ.out X hlk (v := some w) (fun h => by rw [hret] at h; cases h) (fun fs hr => ?_) h1 h2 hq
  exact retOut X hx hret hn (Or.inr (Or.inr (Or.inr (Or.inr ⟨rfl, ht, hw⟩)))) hd hr
theorem EndsQ.retN (X : Stand p l e R s m args below meth c T locs cells slots) (hx : p.tables.exec = Jvm.exec) (hlk : meth.locks = false) {Qv : Option Value → Heap → List Loc → Prop} {rc rs pc : Nat} {Ls : Array Slot} {z : Int32} {t : FieldType} {rest : List Value} (hret : meth.sig.returnType = some t) (ht : t = .boolean ∨ t = .byte ∨ t = .char ∨ t = .short) (hd : decode c.code pc = .ok (.ireturn, 1))
    (h1 : cells ≤ rc) (h2 : slots ≤ rs) (hq : Qv (some (.int (nar t z))) T.heap locs) : EndsQ p.tables e below s Qv rc rs (T.setTop (mkF m pc Ls (.int z :: rest))) := by
  refine EndsQ.out X hlk (v := some (.int (nar t z))) (fun h => by rw [hret] at h; cases h) (fun fs hr => ?_) h1 h2 hq
  exact Jvm.RoadKit.retN X hx hret ht hd hr
theorem EndsQ.retV (X : Stand p l e R s m args below meth c T locs cells slots) (hx : p.tables.exec = Jvm.exec) (hlk : meth.locks = false) {Qv : Option Value → Heap → List Loc → Prop} {rc rs pc : Nat} {Ls : Array Slot} (hret : meth.sig.returnType = none) (hd : decode c.code pc = .ok (.return_, 1))
    (h1 : cells ≤ rc) (h2 : slots ≤ rs) (hq : Qv none T.heap locs) : EndsQ p.tables e below s Qv rc rs (T.setTop (mkF m pc Ls [])) := by
  refine EndsQ.out X hlk (v := none) (fun _ => rfl) (fun fs hr => ?_) h1 h2 hq
  exact X.returnOut hx hret hd hr
end OwnKit
end Jvm.RoadKit
namespace Jvm.Pilot.@@N@@
open Jvm Jvm.ClassFile Sem Op Lib Jvm.Free Jvm.Stand Jvm.LawKit Jvm.RoadKit Bundle Jvm.Pilot.@@N@@.Jvm.D

def own_minI (a b : Int32) : Int32 := if b < a then b else a
def own_w (v : Int32) : Int32 := ((v.toUInt32 >>> ((6 : Int32) &&& 31).toUInt32).toInt32)
def own_has (v z : Int32) (r : Int64) : Int32 := if own_w v < z then (if (((r.toUInt64 >>> (v &&& 0x3f).toInt64.toUInt64).toInt64) &&& (1 : Int64)) = (0 : Int64) then 0 else 1) else 0
theorem own_n3 (x : Int32) : (x &&& (3 : Int32)) = 0 ∨ (x &&& (3 : Int32)) = 1 ∨ (x &&& (3 : Int32)) = 2 ∨ (x &&& (3 : Int32)) = 3 := by
  have h1 := c_mask x (3 : Int32) 2 (by decide) rfl
  have e : ∀ (j : Int32) (z : Int), j.toInt = z → (x &&& (3 : Int32)).toInt = z → (x &&& (3 : Int32)) = j := fun j z hz h => Int32.toInt_inj.mp (h.trans hz.symm)
  generalize (x &&& (3 : Int32)) = y at *
  have h6 : y.toInt = 0 ∨ y.toInt = 1 ∨ y.toInt = 2 ∨ y.toInt = 3 := by omega
  rcases h6 with h | h | h | h
  · exact Or.inl (e 0 0 rfl h)
  · exact Or.inr (Or.inl (e 1 1 rfl h))
  · exact Or.inr (Or.inr (Or.inl (e 2 2 rfl h)))
  · exact Or.inr (Or.inr (Or.inr (e 3 3 rfl h)))
theorem own_v (x m : Int32) : 0 ≤ (if (m &&& (1 : Int32)) = (0 : Int32) then (x &&& (255 : Int32)) else (x &&& (2147483647 : Int32))).toInt := by
  have h1 := c_mask x (255 : Int32) 8 (by decide) rfl
  have h2 := c_mask x (2147483647 : Int32) 31 (by decide) rfl
  by_cases q : (m &&& (1 : Int32)) = (0 : Int32)
  · rw [if_pos q]; omega
  · rw [if_neg q]; omega
theorem own_kw (v : Int32) (h : 0 ≤ v.toInt) : own_w v = (v / (64 : Int32)) ∧ 0 ≤ (v / (64 : Int32)).toInt := by
  have a := c_iushr v (6 : Int32) 6 rfl (by decide)
  have b := (c_idiv v (64 : Int32) 64 rfl (by decide)).1 h
  have r := rng32 v
  refine ⟨Int32.toInt_inj.mp ?_, by omega⟩
  rw [b]
  unfold own_w
  rw [a]
  have p : ((2 ^ 6 : Nat) : Int) = 64 := rfl
  rw [p]
  omega
theorem own_c3 (k : Int32) (h : 0 ≤ k.toInt) : k = 0 ∨ k = 1 ∨ k = 2 ∨ (2 : Int32) < k := by
  have e : ∀ (j : Int32) (z : Int), j.toInt = z → k.toInt = z → k = j := fun j z hz h => Int32.toInt_inj.mp (h.trans hz.symm)
  have t : (2 : Int32).toInt = 2 := rfl
  have h6 : k.toInt = 0 ∨ k.toInt = 1 ∨ k.toInt = 2 ∨ 2 < k.toInt := by omega
  rcases h6 with h | h | h | h
  · exact Or.inl (e 0 0 rfl h)
  · exact Or.inr (Or.inl (e 1 1 rfl h))
  · exact Or.inr (Or.inr (Or.inl (e 2 2 rfl h)))
  · exact Or.inr (Or.inr (Or.inr (by rw [Int32.lt_iff_toInt_lt, t]; exact h)))
theorem own_gt2 (k z : Int32) (h : (2 : Int32) < k) (hz : z.toInt ≤ 3) : ¬ k < z := fun q => by
  have t : (2 : Int32).toInt = 2 := rfl
  rw [Int32.lt_iff_toInt_lt] at h q
  omega
theorem own_mono (k n z : Int32) (h : ¬ k < n) (hz : z.toInt ≤ n.toInt) : ¬ k < z := fun q => by
  rw [Int32.lt_iff_toInt_lt] at h q
  omega
theorem own_hasA (v z k : Int32) (r : Int64) (hk : own_w v = k) (h : ¬ k < z) : own_has v z r = 0 := by
  unfold own_has
  rw [hk, if_neg h]
theorem own_bv (w : BitVec 64) (k : Nat) (hk : k < 64) : ((w >>> k) &&& 1#64 = 0#64) ↔ (w &&& (1#64 <<< k) = 0#64) := by
  constructor
  · intro h
    apply BitVec.eq_of_getLsbD_eq
    intro i hi
    have h0 := congrArg (fun x => x.getLsbD 0) h
    simp only [BitVec.getLsbD_and, BitVec.getLsbD_ushiftRight, BitVec.getLsbD_zero, BitVec.getLsbD_shiftLeft, BitVec.getLsbD_one] at h0 ⊢
    by_cases q : i = k
    · have h1 : w.getLsbD k = false := by simpa using h0
      rw [q]
      simp [h1]
    · by_cases q2 : i < k
      · simp [q2]
      · have : i - k ≠ 0 := by omega
        simp [this]
  · intro h
    apply BitVec.eq_of_getLsbD_eq
    intro i hi
    have h0 := congrArg (fun x => x.getLsbD k) h
    simp only [BitVec.getLsbD_and, BitVec.getLsbD_ushiftRight, BitVec.getLsbD_zero, BitVec.getLsbD_shiftLeft, BitVec.getLsbD_one] at h0 ⊢
    by_cases q : i = 0
    · subst q
      simpa [hk] using h0
    · simp [q]
theorem own_bits (w : Int64) (s : Int32) (k : Nat) (hs : s.toBitVec.toNat % 64 = k) : ((((w.toUInt64 >>> (s &&& 0x3f).toInt64.toUInt64).toInt64) &&& (1 : Int64)) = (0 : Int64)) ↔ ((w &&& ((1 : Int64) <<< (s &&& 0x3f).toInt64)) = (0 : Int64)) := by
  have hk : k < 64 := by omega
  obtain ⟨e, -⟩ := sm64 s k hs
  have e1 : (((w.toUInt64 >>> (s &&& 0x3f).toInt64.toUInt64).toInt64) &&& (1 : Int64)).toBitVec = (w.toBitVec >>> k) &&& 1#64 := by
    show (w.toBitVec >>> ((s &&& 0x3f).toInt64.toBitVec % 64)) &&& (1 : Int64).toBitVec = _
    rw [BitVec.ushiftRight_eq', BitVec.toNat_umod, e, BitVec.toNat_ofNat, show k % 2 ^ 64 % (64 : BitVec 64).toNat = k from by show k % 2 ^ 64 % 64 = k; omega]
    rfl
  have e2 : (w &&& ((1 : Int64) <<< (s &&& 0x3f).toInt64)).toBitVec = w.toBitVec &&& (1#64 <<< k) := by
    show w.toBitVec &&& ((1 : Int64).toBitVec <<< ((s &&& 0x3f).toInt64.toBitVec.smod 64)) = _
    rw [BitVec.shiftLeft_eq', e, smod64 k hk]
    rfl
  have z : (0 : Int64).toBitVec = 0#64 := rfl
  have r := own_bv w.toBitVec k hk
  constructor
  · intro h
    have h2 := congrArg Int64.toBitVec h
    rw [e1, z] at h2
    refine Int64.toBitVec_inj.mp ?_
    rw [e2, z]
    exact r.mp h2
  · intro h
    have h2 := congrArg Int64.toBitVec h
    rw [e2, z] at h2
    refine Int64.toBitVec_inj.mp ?_
    rw [e1, z]
    exact r.mpr h2
theorem own_b (v : Int32) (h : 0 ≤ v.toInt) : ((v % (64 : Int32)) &&& 0x3f) = (v &&& 0x3f) := by
  refine Int32.toInt_inj.mp ?_
  rw [c_mask _ 0x3f 6 (by decide) rfl, c_mask _ 0x3f 6 (by decide) rfl, (c_irem v (64 : Int32) 64 rfl).1 h]
  have p : ((2 ^ 6 : Nat) : Int) = 64 := rfl
  rw [p]
  omega
theorem own_hasB (v z k b : Int32) (w : Int64) (h : 0 ≤ v.toInt) (hk : own_w v = k) (hb : (v % (64 : Int32)) = b) (hz : ¬ k < z → w = 0) :
    own_has v z w = (if (w &&& ((1 : Int64) <<< (b &&& 0x3f).toInt64)) = (0 : Int64) then (0 : Int32) else (1 : Int32)) := by
  unfold own_has
  rw [hk, ← hb, own_b v h]
  by_cases q : k < z
  · rw [if_pos q]
    have t := own_bits w v _ rfl
    by_cases q2 : (w &&& ((1 : Int64) <<< (v &&& 0x3f).toInt64)) = (0 : Int64)
    · rw [if_pos q2, if_pos (t.mpr q2)]
    · rw [if_neg q2, if_neg (fun y => q2 (t.mp y))]
  · rw [if_neg q, hz q, if_pos (by simp)]
theorem d5_0 : decode jdk_29_method_69_code 0 = .ok (.iload_n 0, 1) := by decide +kernel
theorem d5_1 : decode jdk_29_method_69_code 1 = .ok (.iload_n 1, 1) := by decide +kernel
theorem d5_2 : decode jdk_29_method_69_code 2 = .ok (.if_icmp .gt 7, 3) := by decide +kernel
theorem d5_5 : decode jdk_29_method_69_code 5 = .ok (.iload_n 0, 1) := by decide +kernel
theorem d5_6 : decode jdk_29_method_69_code 6 = .ok (.goto 4, 3) := by decide +kernel
theorem d5_9 : decode jdk_29_method_69_code 9 = .ok (.iload_n 1, 1) := by decide +kernel
theorem d5_10 : decode jdk_29_method_69_code 10 = .ok (.ireturn, 1) := by decide +kernel
theorem d4_0 : decode jdk_65_method_124_code 0 = .ok (.iload_n 1, 1) := by decide +kernel
theorem d4_1 : decode jdk_65_method_124_code 1 = .ok (.aload_n 0, 1) := by decide +kernel
theorem d4_2 : decode jdk_65_method_124_code 2 = .ok (.arraylength, 1) := by decide +kernel
theorem d4_3 : decode jdk_65_method_124_code 3 = .ok (.if_icmp .ne 11, 3) := by decide +kernel
theorem d4_6 : decode jdk_65_method_124_code 6 = .ok (.aload_n 0, 1) := by decide +kernel
theorem d4_7 : decode jdk_65_method_124_code 7 = .ok (.invokevirtual 319, 3) := by decide +kernel
theorem d4_10 : decode jdk_65_method_124_code 10 = .ok (.checkcast 320, 3) := by decide +kernel
theorem d4_13 : decode jdk_65_method_124_code 13 = .ok (.areturn, 1) := by decide +kernel
theorem d4_14 : decode jdk_65_method_124_code 14 = .ok (.iload_n 1, 1) := by decide +kernel
theorem d4_15 : decode jdk_65_method_124_code 15 = .ok (.newarray .long, 2) := by decide +kernel
theorem d4_17 : decode jdk_65_method_124_code 17 = .ok (.astore_n 2, 1) := by decide +kernel
theorem d4_18 : decode jdk_65_method_124_code 18 = .ok (.aload_n 0, 1) := by decide +kernel
theorem d4_19 : decode jdk_65_method_124_code 19 = .ok (.iconst 0, 1) := by decide +kernel
theorem d4_20 : decode jdk_65_method_124_code 20 = .ok (.aload_n 2, 1) := by decide +kernel
theorem d4_21 : decode jdk_65_method_124_code 21 = .ok (.iconst 0, 1) := by decide +kernel
theorem d4_22 : decode jdk_65_method_124_code 22 = .ok (.aload_n 0, 1) := by decide +kernel
theorem d4_23 : decode jdk_65_method_124_code 23 = .ok (.arraylength, 1) := by decide +kernel
theorem d4_24 : decode jdk_65_method_124_code 24 = .ok (.iload_n 1, 1) := by decide +kernel
theorem d4_25 : decode jdk_65_method_124_code 25 = .ok (.invokestatic 304, 3) := by decide +kernel
theorem d4_28 : decode jdk_65_method_124_code 28 = .ok (.invokestatic 150, 3) := by decide +kernel
theorem d4_31 : decode jdk_65_method_124_code 31 = .ok (.aload_n 2, 1) := by decide +kernel
theorem d4_32 : decode jdk_65_method_124_code 32 = .ok (.areturn, 1) := by decide +kernel
theorem pn_4 : plainName "java/util/Arrays" = true := by first | (simp [plainName, overriddenIn]; done) | decide +kernel
theorem d1_0 : decode prog_21_method_1_code 0 = .ok (.aload_n 0, 1) := by decide +kernel
theorem d1_1 : decode prog_21_method_1_code 1 = .ok (.invokespecial 1, 3) := by decide +kernel
theorem d1_4 : decode prog_21_method_1_code 4 = .ok (.aload_n 1, 1) := by decide +kernel
theorem d1_5 : decode prog_21_method_1_code 5 = .ok (.arraylength, 1) := by decide +kernel
theorem d1_6 : decode prog_21_method_1_code 6 = .ok (.istore_n 2, 1) := by decide +kernel
theorem d1_7 : decode prog_21_method_1_code 7 = .ok (.iload_n 2, 1) := by decide +kernel
theorem d1_8 : decode prog_21_method_1_code 8 = .ok (.ifCond .le 19, 3) := by decide +kernel
theorem d1_11 : decode prog_21_method_1_code 11 = .ok (.aload_n 1, 1) := by decide +kernel
theorem d1_12 : decode prog_21_method_1_code 12 = .ok (.iload_n 2, 1) := by decide +kernel
theorem d1_13 : decode prog_21_method_1_code 13 = .ok (.iconst 1, 1) := by decide +kernel
theorem d1_14 : decode prog_21_method_1_code 14 = .ok (.isub, 1) := by decide +kernel
theorem d1_15 : decode prog_21_method_1_code 15 = .ok (.laload, 1) := by decide +kernel
theorem d1_16 : decode prog_21_method_1_code 16 = .ok (.lconst 0, 1) := by decide +kernel
theorem d1_17 : decode prog_21_method_1_code 17 = .ok (.lcmp, 1) := by decide +kernel
theorem d1_18 : decode prog_21_method_1_code 18 = .ok (.ifCond .ne 9, 3) := by decide +kernel
theorem d1_21 : decode prog_21_method_1_code 21 = .ok (.iinc 2 (-1), 3) := by decide +kernel
theorem d1_24 : decode prog_21_method_1_code 24 = .ok (.goto (-17), 3) := by decide +kernel
theorem d1_27 : decode prog_21_method_1_code 27 = .ok (.aload_n 0, 1) := by decide +kernel
theorem d1_28 : decode prog_21_method_1_code 28 = .ok (.iload_n 2, 1) := by decide +kernel
theorem d1_29 : decode prog_21_method_1_code 29 = .ok (.aload_n 1, 1) := by decide +kernel
theorem d1_30 : decode prog_21_method_1_code 30 = .ok (.arraylength, 1) := by decide +kernel
theorem d1_31 : decode prog_21_method_1_code 31 = .ok (.if_icmp .ne 7, 3) := by decide +kernel
theorem d1_34 : decode prog_21_method_1_code 34 = .ok (.aload_n 1, 1) := by decide +kernel
theorem d1_35 : decode prog_21_method_1_code 35 = .ok (.goto 8, 3) := by decide +kernel
theorem d1_38 : decode prog_21_method_1_code 38 = .ok (.aload_n 1, 1) := by decide +kernel
theorem d1_39 : decode prog_21_method_1_code 39 = .ok (.iload_n 2, 1) := by decide +kernel
theorem d1_40 : decode prog_21_method_1_code 40 = .ok (.invokestatic 7, 3) := by decide +kernel
theorem d1_43 : decode prog_21_method_1_code 43 = .ok (.putfield 13, 3) := by decide +kernel
theorem d1_46 : decode prog_21_method_1_code 46 = .ok (.return_, 1) := by decide +kernel
theorem pn_1 : plainName "com/example/sextant/sextant/ValueSet" = true := by first | (simp [plainName, overriddenIn]; done) | decide +kernel
theorem d3_0 : decode prog_21_method_2_code 0 = .ok (.iload_n 1, 1) := by decide +kernel
theorem d3_1 : decode prog_21_method_2_code 1 = .ok (.bipush 6, 2) := by decide +kernel
theorem d3_3 : decode prog_21_method_2_code 3 = .ok (.iushr, 1) := by decide +kernel
theorem d3_4 : decode prog_21_method_2_code 4 = .ok (.istore_n 2, 1) := by decide +kernel
theorem d3_5 : decode prog_21_method_2_code 5 = .ok (.iload_n 2, 1) := by decide +kernel
theorem d3_6 : decode prog_21_method_2_code 6 = .ok (.aload_n 0, 1) := by decide +kernel
theorem d3_7 : decode prog_21_method_2_code 7 = .ok (.getfield 13, 3) := by decide +kernel
theorem d3_10 : decode prog_21_method_2_code 10 = .ok (.arraylength, 1) := by decide +kernel
theorem d3_11 : decode prog_21_method_2_code 11 = .ok (.if_icmp .ge 22, 3) := by decide +kernel
theorem d3_14 : decode prog_21_method_2_code 14 = .ok (.aload_n 0, 1) := by decide +kernel
theorem d3_15 : decode prog_21_method_2_code 15 = .ok (.getfield 13, 3) := by decide +kernel
theorem d3_18 : decode prog_21_method_2_code 18 = .ok (.iload_n 2, 1) := by decide +kernel
theorem d3_19 : decode prog_21_method_2_code 19 = .ok (.laload, 1) := by decide +kernel
theorem d3_20 : decode prog_21_method_2_code 20 = .ok (.iload_n 1, 1) := by decide +kernel
theorem d3_21 : decode prog_21_method_2_code 21 = .ok (.lushr, 1) := by decide +kernel
theorem d3_22 : decode prog_21_method_2_code 22 = .ok (.lconst 1, 1) := by decide +kernel
theorem d3_23 : decode prog_21_method_2_code 23 = .ok (.land, 1) := by decide +kernel
theorem d3_24 : decode prog_21_method_2_code 24 = .ok (.lconst 0, 1) := by decide +kernel
theorem d3_25 : decode prog_21_method_2_code 25 = .ok (.lcmp, 1) := by decide +kernel
theorem d3_26 : decode prog_21_method_2_code 26 = .ok (.ifCond .eq 7, 3) := by decide +kernel
theorem d3_29 : decode prog_21_method_2_code 29 = .ok (.iconst 1, 1) := by decide +kernel
theorem d3_30 : decode prog_21_method_2_code 30 = .ok (.goto 4, 3) := by decide +kernel
theorem d3_33 : decode prog_21_method_2_code 33 = .ok (.iconst 0, 1) := by decide +kernel
theorem d3_34 : decode prog_21_method_2_code 34 = .ok (.ireturn, 1) := by decide +kernel
theorem pn_3 : plainName "com/example/sextant/sextant/ValueSet" = true := by first | (simp [plainName, overriddenIn]; done) | decide +kernel
theorem pn_0 : plainName "com/example/sextant/sextant/ValueSetContainsPinLaw" = true := by first | (simp [plainName, overriddenIn]; done) | decide +kernel
theorem pd_0 : parseMethodDescriptor "(II)I" = some ⟨[.int, .int], some .int⟩ := by decide +kernel
theorem pd_1 : parseMethodDescriptor "([JI)[J" = some ⟨[(.array .long), .int], some (.array .long)⟩ := by decide +kernel
theorem pd_2 : parseMethodDescriptor "([J)V" = some ⟨[(.array .long)], none⟩ := by decide +kernel
theorem pd_3 : parseMethodDescriptor "(I)Z" = some ⟨[.int], some .boolean⟩ := by decide +kernel
theorem ef_5 (m : MethodId) (x0 : Int32) (x1 : Int32) : entryFrame m #[(.int x0), (.int x1)] 2 = mkF m 0 #[.val (.int x0), .val (.int x1)] [] := by first | (simp [entryFrame, mkF, argsToLocals, Value.category]; done) | rfl
def Q5 (Z : State) (p1 : Int32) (p2 : Int32) (h0 : Heap) (n0 : Nat) (v : Option Value) (h : Heap) (L : List Loc) : Prop := v = some (.int (own_minI p1 p2)) ∧ Fr n0 L ∧ h = h0
set_option maxRecDepth 65536 in
set_option maxHeartbeats 40000000 in
theorem rm5 (l : Launch) (Z : State) (a0 : Array Value) (hw : ∀ d ∈ tables_1, d.before a0 Z = true) (ws : List Jvm.Cond) (p1 : Int32) (p2 : Int32) (h0 : Heap) (n0 : Nat) (Z0 : n0 ≤ h0.size) :
    MetFree l (⟨"java/lang/Math", "min", "(II)I"⟩ : MethodName) (head1 (Jvm.Cond.code (⟨"java/lang/Math", "min", "(II)I"⟩ : MethodName) jdk_29_method_69_code 2 (some .int) :: ws) ({ frames := 0, cells := 0, slots := 0, locals := 0 } : Room)) (fun a U => a = #[(.int p1), (.int p2)] ∧ Z.Warmed39 U.vm ∧ U.heap = h0) (fun _ _ _ _ _ => True) (fun _ U o U' => ∃ v L, o = .returned v ∧ Q5 Z p1 p2 h0 n0 v U'.heap L ∧ FrameEnd U o U' L ({ frames := 0, cells := 0, slots := 0, locals := 0 } : Room).cells ({ frames := 0, cells := 0, slots := 0, locals := 0 } : Room).slots) := by
  refine MetFree.of_bodySF (Jvm.Free.JP.mathPlain rfl (by decide +kernel)) hisR ?_
  intro p e s m args below meth c s₁ Bd hml0 hP hK
  obtain ⟨rfl, hZ, hh⟩ := hP
  have hx := Bd.exec
  have hby := Bd.bytes
  have hml : c.maxLocals = 2 := hml0
  have hown : s.vm.findClass "java/lang/Math" = some m.cls := findClass_of_methodNamed Bd.named
  have hnm := (name_of_methodNamed Bd.named Bd.method).1
  have X0 : Stand p l e ({ frames := 0, cells := 0, slots := 0, locals := 0 } : Room) s m #[(.int p1), (.int p2)] below meth c s₁ [] 0 0 := Stand.of_body Bd
  have e0 : s₁.heap = h0 := by rw [← hh, Bd.state]; rfl
  have N0 := Fr.nil n0
  show EndsQ p.tables e below s (fun v h L => Q5 Z p1 p2 h0 n0 v h L) ({ frames := 0, cells := 0, slots := 0, locals := 0 } : Room).cells ({ frames := 0, cells := 0, slots := 0, locals := 0 } : Room).slots _
  refine EndsQ.go (b := s₁.setTop (mkF m 0 #[.val (.int p1), .val (.int p2)] [])) (fun t k => castTop (ef_5 m p1 p2) k) ?_
  refine EndsQ.go (b := s₁.setTop (mkF m 2 #[.val (.int p1), .val (.int p2)] [(.int p2), (.int p1)])) (fun t k => ?_) ?_
  · show Steps p.tables e below (s₁.setTop (mkF m 0 #[.val (.int p1), .val (.int p2)] [])) _
    refine XS.iloadN X0.here hx rfl (hb hby d5_0) rfl ?_
    show Steps p.tables e below (s₁.setTop (mkF m 1 #[.val (.int p1), .val (.int p2)] [(.int p1)])) _
    refine XS.iloadN X0.here hx rfl (hb hby d5_1) rfl ?_
    show Steps p.tables e below (s₁.setTop (mkF m 2 #[.val (.int p1), .val (.int p2)] [(.int p2), (.int p1)])) _
    exact k
  by_cases hc2_101 : p2 < p1
  · refine EndsQ.go (b := s₁.setTop (mkF m 9 #[.val (.int p1), .val (.int p2)] [])) (fun t k => ?_) ?_
    · show Steps p.tables e below (s₁.setTop (mkF m 2 #[.val (.int p1), .val (.int p2)] [(.int p2), (.int p1)])) _
      refine XS.icmpYes X0.here hx rfl (pc0 := 2) (pc' := 9) rfl (hb hby d5_2) rfl (tlt hc2_101).2.2.1 (by decide) (by decide) ?_
      show Steps p.tables e below (s₁.setTop (mkF m 9 #[.val (.int p1), .val (.int p2)] [])) _
      exact k
    refine EndsQ.go (b := s₁.setTop (mkF m 10 #[.val (.int p1), .val (.int p2)] [(.int p2)])) (fun t k => ?_) ?_
    · show Steps p.tables e below (s₁.setTop (mkF m 9 #[.val (.int p1), .val (.int p2)] [])) _
      refine XS.iloadN X0.here hx rfl (hb hby d5_9) rfl ?_
      show Steps p.tables e below (s₁.setTop (mkF m 10 #[.val (.int p1), .val (.int p2)] [(.int p2)])) _
      exact k
    refine EndsQ.retI X0 hx Bd.notSynchronized Bd.returns (hb hby d5_10) (by decide) (by decide) ?_
    show Q5 Z p1 p2 h0 n0 (some (.int p2)) s₁.heap _
    rw [e0]
    exact ⟨by unfold own_minI; rw [if_pos hc2_101], N0, rfl⟩
  · refine EndsQ.go (b := s₁.setTop (mkF m 5 #[.val (.int p1), .val (.int p2)] [])) (fun t k => ?_) ?_
    · show Steps p.tables e below (s₁.setTop (mkF m 2 #[.val (.int p1), .val (.int p2)] [(.int p2), (.int p1)])) _
      refine XS.icmpNo X0.here hx rfl (hb hby d5_2) rfl (flt hc2_101).2.2.1 ?_
      show Steps p.tables e below (s₁.setTop (mkF m 5 #[.val (.int p1), .val (.int p2)] [])) _
      exact k
    refine EndsQ.go (b := s₁.setTop (mkF m 10 #[.val (.int p1), .val (.int p2)] [(.int p1)])) (fun t k => ?_) ?_
    · show Steps p.tables e below (s₁.setTop (mkF m 5 #[.val (.int p1), .val (.int p2)] [])) _
      refine XS.iloadN X0.here hx rfl (hb hby d5_5) rfl ?_
      show Steps p.tables e below (s₁.setTop (mkF m 6 #[.val (.int p1), .val (.int p2)] [(.int p1)])) _
      refine XS.goto X0.here hx rfl (pc0 := 6) (pc' := 10) rfl (hb hby d5_6) (by decide) (by decide) ?_
      show Steps p.tables e below (s₁.setTop (mkF m 10 #[.val (.int p1), .val (.int p2)] [(.int p1)])) _
      exact k
    refine EndsQ.retI X0 hx Bd.notSynchronized Bd.returns (hb hby d5_10) (by decide) (by decide) ?_
    show Q5 Z p1 p2 h0 n0 (some (.int p1)) s₁.heap _
    rw [e0]
    exact ⟨by unfold own_minI; rw [if_neg hc2_101], N0, rfl⟩
theorem ef_Cp10 (m : MethodId) (x0 : Addr) (x1 : Int32) : entryFrame m #[(.ref x0), (.int x1)] 3 = mkF m 0 #[.val (.ref x0), .val (.int x1), .unset] [] := by first | (simp [entryFrame, mkF, argsToLocals, Value.category]; done) | rfl
def QCp10 (Z : State) (a1 : Addr) (kA : ClassId) (w0 : Int64) (h0 : Heap) (n0 : Nat) (v : Option Value) (h : Heap) (L : List Loc) : Prop := ∃ (b : Addr) (kB : ClassId), v = some (.ref b) ∧ Fr n0 L ∧ Keep h0 h [] ∧ n0 ≤ b ∧ h0.size ≤ b ∧ Arv Z h b kB .long (0 : Int32) [] (.long (0 : Int64))
set_option maxRecDepth 65536 in
set_option maxHeartbeats 40000000 in
theorem rmCp10 (l : Launch) (Z : State) (a0 : Array Value) (hw : ∀ d ∈ tables_1, d.before a0 Z = true) (ws : List Jvm.Cond) (a1 : Addr) (kA : ClassId) (w0 : Int64) (h0 : Heap) (n0 : Nat) (Z0 : n0 ≤ h0.size) (V1 : Arv Z h0 a1 kA .long (1 : Int32) [(.long w0)] (.long (0 : Int64))) :
    MetFree l (⟨"java/util/Arrays", "copyOf", "([JI)[J"⟩ : MethodName) (head1 (Jvm.Cond.code (⟨"java/util/Arrays", "copyOf", "([JI)[J"⟩ : MethodName) jdk_65_method_124_code 3 (some (.array .long)) :: ws) ({ frames := 1, cells := 1, slots := 2, locals := 40 } : Room)) (fun a U => a = #[(.ref a1), (.int (0 : Int32))] ∧ Z.Warmed39 U.vm ∧ U.heap = h0) (fun _ _ _ _ _ => True) (fun _ U o U' => ∃ v L, o = .returned v ∧ QCp10 Z a1 kA w0 h0 n0 v U'.heap L ∧ FrameEnd U o U' L ({ frames := 1, cells := 1, slots := 2, locals := 40 } : Room).cells ({ frames := 1, cells := 1, slots := 2, locals := 40 } : Room).slots) := by
  refine MetFree.of_bodySF (plainFor_of_name pn_4) hisR ?_
  intro p e s m args below meth c s₁ Bd hml0 hP hK
  obtain ⟨rfl, hZ, hh⟩ := hP
  have hx := Bd.exec
  have hby := Bd.bytes
  have hml : c.maxLocals = 3 := hml0
  have hown : s.vm.findClass "java/util/Arrays" = some m.cls := findClass_of_methodNamed Bd.named
  have hnm := (name_of_methodNamed Bd.named Bd.method).1
  have X0 : Stand p l e ({ frames := 1, cells := 1, slots := 2, locals := 40 } : Room) s m #[(.ref a1), (.int (0 : Int32))] below meth c s₁ [] 0 0 := Stand.of_body Bd
  have e0 : s₁.heap = h0 := by rw [← hh, Bd.state]; rfl
  have N0 := Fr.nil n0
  show EndsQ p.tables e below s (fun v h L => QCp10 Z a1 kA w0 h0 n0 v h L) ({ frames := 1, cells := 1, slots := 2, locals := 40 } : Room).cells ({ frames := 1, cells := 1, slots := 2, locals := 40 } : Room).slots _
  refine EndsQ.go (b := s₁.setTop (mkF m 0 #[.val (.ref a1), .val (.int (0 : Int32)), .unset] [])) (fun t k => castTop (ef_Cp10 m a1 (0 : Int32)) k) ?_
  have K0 : Keep h0 h0 [] := Keep.refl _ _
  refine EndsQ.go (b := s₁.setTop (mkF m 2 #[.val (.ref a1), .val (.int (0 : Int32)), .unset] [(.ref a1), (.int (0 : Int32))])) (fun t k => ?_) ?_
  · show Steps p.tables e below (s₁.setTop (mkF m 0 #[.val (.ref a1), .val (.int (0 : Int32)), .unset] [])) _
    refine XS.iloadN X0.here hx rfl (hb hby d4_0) rfl ?_
    show Steps p.tables e below (s₁.setTop (mkF m 1 #[.val (.ref a1), .val (.int (0 : Int32)), .unset] [(.int (0 : Int32))])) _
    refine XS.aloadN X0.here hx rfl (hb hby d4_1) rfl rfl ?_
    show Steps p.tables e below (s₁.setTop (mkF m 2 #[.val (.ref a1), .val (.int (0 : Int32)), .unset] [(.ref a1), (.int (0 : Int32))])) _
    exact k
  obtain ⟨cl101, Ar101, -, S101, M101, -, -⟩ := id V1
  refine EndsQ.go (fun t k => X0.arraylength hx (by rw [e0]; exact Ar101.1) (State.isArrayOf_alike hZ.alike Ar101.2.1) (g := (mkF m 2 #[.val (.ref a1), .val (.int (0 : Int32)), .unset] [(.ref a1), (.int (0 : Int32))])) rfl rfl (hb hby d4_2) _ k) ?_
  rw [len_of S101 M101]
  show EndsQ _ _ _ _ _ _ _ (s₁.setTop (mkF m 3 #[.val (.ref a1), .val (.int (0 : Int32)), .unset] [(.int (1 : Int32)), (.int (0 : Int32))]))
  refine EndsQ.go (b := s₁.setTop (mkF m 15 #[.val (.ref a1), .val (.int (0 : Int32)), .unset] [(.int (0 : Int32))])) (fun t k => ?_) ?_
  · show Steps p.tables e below (s₁.setTop (mkF m 3 #[.val (.ref a1), .val (.int (0 : Int32)), .unset] [(.int (1 : Int32)), (.int (0 : Int32))])) _
    refine XS.icmpYes X0.here hx rfl (pc0 := 3) (pc' := 14) rfl (hb hby d4_3) rfl (feq (by decide)).2 (by decide) (by decide) ?_
    show Steps p.tables e below (s₁.setTop (mkF m 14 #[.val (.ref a1), .val (.int (0 : Int32)), .unset] [])) _
    refine XS.iloadN X0.here hx rfl (hb hby d4_14) rfl ?_
    show Steps p.tables e below (s₁.setTop (mkF m 15 #[.val (.ref a1), .val (.int (0 : Int32)), .unset] [(.int (0 : Int32))])) _
    exact k
  obtain ⟨T102, h102, k102, X102, e102, E102, A102, st102⟩ := newP X0 hx hZ (hw _ (List.mem_of_getElem? (i := 0) rfl)) e0 (g := (mkF m 15 #[.val (.ref a1), .val (.int (0 : Int32)), .unset] [(.int (0 : Int32))])) rfl (hb hby d4_15) rfl (by decide) (cap := 0) (by decide) (by decide) (by decide) (by decide)
  obtain ⟨b102, g102⟩ : ∃ z, z = h0.size := ⟨_, rfl⟩
  rw [← g102] at A102 st102
  have gn102 : n0 ≤ b102 := Nat.le_trans Z0 (Nat.le_of_eq g102.symm)
  have gh102 : h0.size ≤ b102 := Nat.le_trans K0.1 (Nat.le_of_eq g102.symm)
  have ne102_a1 : a1 ≠ b102 := Nat.ne_of_lt (Nat.lt_of_lt_of_le V1.lt (Nat.le_of_eq g102.symm))
  have f103 : Arv Z h102 a1 kA .long (1 : Int32) [(.long w0)] (.long (0 : Int64)) := V1.ext E102
  have f104 : n0 ≤ h102.size := Nat.le_trans Z0 E102.1
  have f105 : Keep h0 h102 [] := K0.ext E102
  have f106 : Arv Z h102 b102 k102 .long (0 : Int32) [] (.long (0 : Int64)) := (Arv.new A102 (by decide)).pad (pad_rep [] (.long (0 : Int64)) 0)
  refine EndsQ.go st102 ?_
  show EndsQ _ _ _ _ _ _ _ (T102.setTop (mkF m 17 #[.val (.ref a1), .val (.int (0 : Int32)), .unset] [(.ref b102)]))
  refine EndsQ.go (b := T102.setTop (mkF m 23 #[.val (.ref a1), .val (.int (0 : Int32)), .val (.ref b102)] [(.ref a1), (.int (0 : Int32)), (.ref b102), (.int (0 : Int32)), (.ref a1)])) (fun t k => ?_) ?_
  · show Steps p.tables e below (T102.setTop (mkF m 17 #[.val (.ref a1), .val (.int (0 : Int32)), .unset] [(.ref b102)])) _
    refine XS.astoreN X102.here hx rfl (hb hby d4_17) rfl rfl (l' := #[.val (.ref a1), .val (.int (0 : Int32)), .val (.ref b102)]) rfl ?_
    show Steps p.tables e below (T102.setTop (mkF m 18 #[.val (.ref a1), .val (.int (0 : Int32)), .val (.ref b102)] [])) _
    refine XS.aloadN X102.here hx rfl (hb hby d4_18) rfl rfl ?_
    show Steps p.tables e below (T102.setTop (mkF m 19 #[.val (.ref a1), .val (.int (0 : Int32)), .val (.ref b102)] [(.ref a1)])) _
    refine XS.iconst X102.here hx rfl (hb hby d4_19) ?_
    show Steps p.tables e below (T102.setTop (mkF m 20 #[.val (.ref a1), .val (.int (0 : Int32)), .val (.ref b102)] [(.int (0 : Int32)), (.ref a1)])) _
    refine XS.aloadN X102.here hx rfl (hb hby d4_20) rfl rfl ?_
    show Steps p.tables e below (T102.setTop (mkF m 21 #[.val (.ref a1), .val (.int (0 : Int32)), .val (.ref b102)] [(.ref b102), (.int (0 : Int32)), (.ref a1)])) _
    refine XS.iconst X102.here hx rfl (hb hby d4_21) ?_
    show Steps p.tables e below (T102.setTop (mkF m 22 #[.val (.ref a1), .val (.int (0 : Int32)), .val (.ref b102)] [(.int (0 : Int32)), (.ref b102), (.int (0 : Int32)), (.ref a1)])) _
    refine XS.aloadN X102.here hx rfl (hb hby d4_22) rfl rfl ?_
    show Steps p.tables e below (T102.setTop (mkF m 23 #[.val (.ref a1), .val (.int (0 : Int32)), .val (.ref b102)] [(.ref a1), (.int (0 : Int32)), (.ref b102), (.int (0 : Int32)), (.ref a1)])) _
    exact k
  obtain ⟨cl107, Ar107, -, S107, M107, -, -⟩ := id f103
  refine EndsQ.go (fun t k => X102.arraylength hx (by rw [e102]; exact Ar107.1) (State.isArrayOf_alike hZ.alike Ar107.2.1) (g := (mkF m 23 #[.val (.ref a1), .val (.int (0 : Int32)), .val (.ref b102)] [(.ref a1), (.int (0 : Int32)), (.ref b102), (.int (0 : Int32)), (.ref a1)])) rfl rfl (hb hby d4_23) _ k) ?_
  rw [len_of S107 M107]
  show EndsQ _ _ _ _ _ _ _ (T102.setTop (mkF m 24 #[.val (.ref a1), .val (.int (0 : Int32)), .val (.ref b102)] [(.int (1 : Int32)), (.int (0 : Int32)), (.ref b102), (.int (0 : Int32)), (.ref a1)]))
  refine EndsQ.go (b := T102.setTop (mkF m 25 #[.val (.ref a1), .val (.int (0 : Int32)), .val (.ref b102)] [(.int (0 : Int32)), (.int (1 : Int32)), (.int (0 : Int32)), (.ref b102), (.int (0 : Int32)), (.ref a1)])) (fun t k => ?_) ?_
  · show Steps p.tables e below (T102.setTop (mkF m 24 #[.val (.ref a1), .val (.int (0 : Int32)), .val (.ref b102)] [(.int (1 : Int32)), (.int (0 : Int32)), (.ref b102), (.int (0 : Int32)), (.ref a1)])) _
    refine XS.iloadN X102.here hx rfl (hb hby d4_24) rfl ?_
    show Steps p.tables e below (T102.setTop (mkF m 25 #[.val (.ref a1), .val (.int (0 : Int32)), .val (.ref b102)] [(.int (0 : Int32)), (.int (1 : Int32)), (.int (0 : Int32)), (.ref b102), (.int (0 : Int32)), (.ref a1)])) _
    exact k
  obtain ⟨_, _, ⟨T108, L108, kk108, nn108⟩, -, X108, ⟨Lc108, hQ108, l108, y108, z108⟩, st108⟩ := Jvm.LawKit.callS X102 hx (y := (⟨"java/lang/Math", "min", "(II)I"⟩ : MethodName)) hown (mvT hZ (hw _ (List.mem_of_getElem? (i := 22) rfl))) (mvT hZ (hw _ (List.mem_of_getElem? (i := 23) rfl))) (mvT hZ (hw _ (List.mem_of_getElem? (i := 24) rfl))) (mvT hZ (hw _ (List.mem_of_getElem? (i := 25) rfl))) (by decide) (backOf (W := 4) (rm5 l Z a0 hw [] (1 : Int32) (0 : Int32) h102 n0 f104 ) hZ (hw _ (List.mem_of_getElem? (i := 25) rfl)) (hw _ (List.mem_of_getElem? (i := 24) rfl)) (by decide) (by decide)) (g := (mkF m 25 #[.val (.ref a1), .val (.int (0 : Int32)), .val (.ref b102)] [(.int (0 : Int32)), (.int (1 : Int32)), (.int (0 : Int32)), (.ref b102), (.int (0 : Int32)), (.ref a1)])) rfl (by rw [hml]; rfl) (argsL := [(.int (1 : Int32)), (.int (0 : Int32))]) (rest := [(.int (0 : Int32)), (.ref b102), (.int (0 : Int32)), (.ref a1)]) (lenOf pd_0 rfl) rfl (by show 2 * 0 + _ ≤ _; exact Nat.le_of_eq rfl) (hb hby d4_25) (fun _ _ => ⟨rfl, e102, (by decide : 1 + 0 ≤ _), (by decide : 0 + 0 ≤ _)⟩)
  dsimp only [Pt.U, Pt.locs, Pt.cells, Pt.slots] at X108 l108 y108 z108 st108 hQ108
  subst l108 y108 z108
  obtain ⟨rfl, Nq108, eq108⟩ := hQ108
  have N108 := Fr.app N0 Nq108
  refine EndsQ.go st108 ?_
  show EndsQ _ _ _ _ _ _ _ (T108.setTop (mkF m 28 #[.val (.ref a1), .val (.int (0 : Int32)), .val (.ref b102)] [(.int (own_minI (1 : Int32) (0 : Int32))), (.int (0 : Int32)), (.ref b102), (.int (0 : Int32)), (.ref a1)]))
  rw [(by decide : (own_minI (1 : Int32) (0 : Int32)) = (0 : Int32))]
  show EndsQ _ _ _ _ _ _ _ (T108.setTop (mkF m 28 #[.val (.ref a1), .val (.int (0 : Int32)), .val (.ref b102)] [(.int (0 : Int32)), (.int (0 : Int32)), (.ref b102), (.int (0 : Int32)), (.ref a1)]))
  obtain ⟨T109, h109, Lx109, X109, e109, N109, K109, V109, st109⟩ := cpA X108 hx hZ hown (hw _ (List.mem_of_getElem? (i := 26) rfl)) (hw _ (List.mem_of_getElem? (i := 29) rfl)) (hw _ (List.mem_of_getElem? (i := 27) rfl)) (hw _ (List.mem_of_getElem? (i := 28) rfl)) eq108 (sp := (0 : Int32)) (dp := (0 : Int32)) (nn := (0 : Int32)) f103 f106 (Or.inl ⟨rfl, rfl⟩) (by decide) (by decide) (by decide) (by decide) (by decide) rfl (by decide) N108 gn102 (g := (mkF m 28 #[.val (.ref a1), .val (.int (0 : Int32)), .val (.ref b102)] [(.int (0 : Int32)), (.int (0 : Int32)), (.ref b102), (.int (0 : Int32)), (.ref a1)])) rfl (by rw [hml]; rfl) rfl (hb hby d4_28) (by decide) (W := 0) (by show 2 * 0 + _ ≤ _; exact Nat.le_of_eq rfl) (by decide)
  have VV109 : Arv Z h109 b102 k102 .long (0 : Int32) [] (.long (0 : Int64)) := V109
  have f110 : Arv Z h109 a1 kA .long (1 : Int32) [(.long w0)] (.long (0 : Int64)) := f103.keep K109 (ninS ne102_a1 nin0)
  have f111 : n0 ≤ h109.size := Nat.le_trans f104 K109.1
  have f112 : Keep h0 h109 [] := f105.trans K109 (allS (Or.inr gh102) all0)
  refine EndsQ.go st109 ?_
  show EndsQ _ _ _ _ _ _ _ (T109.setTop (mkF m 31 #[.val (.ref a1), .val (.int (0 : Int32)), .val (.ref b102)] []))
  refine EndsQ.go (b := T109.setTop (mkF m 32 #[.val (.ref a1), .val (.int (0 : Int32)), .val (.ref b102)] [(.ref b102)])) (fun t k => ?_) ?_
  · show Steps p.tables e below (T109.setTop (mkF m 31 #[.val (.ref a1), .val (.int (0 : Int32)), .val (.ref b102)] [])) _
    refine XS.aloadN X109.here hx rfl (hb hby d4_31) rfl rfl ?_
    show Steps p.tables e below (T109.setTop (mkF m 32 #[.val (.ref a1), .val (.int (0 : Int32)), .val (.ref b102)] [(.ref b102)])) _
    exact k
  refine EndsQ.retA X109 hx Bd.notSynchronized (w := (.ref b102)) Bd.returns rfl rfl rfl (hb hby d4_32) (by decide) (by decide) ?_
  show QCp10 Z a1 kA w0 h0 n0 (some (.ref b102)) T109.heap _
  rw [e109]
  exact ⟨b102, k102, rfl, N109, f112, gn102, gh102, VV109⟩
theorem ef_Cp20 (m : MethodId) (x0 : Addr) (x1 : Int32) : entryFrame m #[(.ref x0), (.int x1)] 3 = mkF m 0 #[.val (.ref x0), .val (.int x1), .unset] [] := by first | (simp [entryFrame, mkF, argsToLocals, Value.category]; done) | rfl
def QCp20 (Z : State) (a1 : Addr) (kA : ClassId) (w0 : Int64) (w1 : Int64) (h0 : Heap) (n0 : Nat) (v : Option Value) (h : Heap) (L : List Loc) : Prop := ∃ (b : Addr) (kB : ClassId), v = some (.ref b) ∧ Fr n0 L ∧ Keep h0 h [] ∧ n0 ≤ b ∧ h0.size ≤ b ∧ Arv Z h b kB .long (0 : Int32) [] (.long (0 : Int64))
set_option maxRecDepth 65536 in
set_option maxHeartbeats 40000000 in
theorem rmCp20 (l : Launch) (Z : State) (a0 : Array Value) (hw : ∀ d ∈ tables_1, d.before a0 Z = true) (ws : List Jvm.Cond) (a1 : Addr) (kA : ClassId) (w0 : Int64) (w1 : Int64) (h0 : Heap) (n0 : Nat) (Z0 : n0 ≤ h0.size) (V1 : Arv Z h0 a1 kA .long (2 : Int32) [(.long w0), (.long w1)] (.long (0 : Int64))) :
    MetFree l (⟨"java/util/Arrays", "copyOf", "([JI)[J"⟩ : MethodName) (head1 (Jvm.Cond.code (⟨"java/util/Arrays", "copyOf", "([JI)[J"⟩ : MethodName) jdk_65_method_124_code 3 (some (.array .long)) :: ws) ({ frames := 1, cells := 1, slots := 2, locals := 40 } : Room)) (fun a U => a = #[(.ref a1), (.int (0 : Int32))] ∧ Z.Warmed39 U.vm ∧ U.heap = h0) (fun _ _ _ _ _ => True) (fun _ U o U' => ∃ v L, o = .returned v ∧ QCp20 Z a1 kA w0 w1 h0 n0 v U'.heap L ∧ FrameEnd U o U' L ({ frames := 1, cells := 1, slots := 2, locals := 40 } : Room).cells ({ frames := 1, cells := 1, slots := 2, locals := 40 } : Room).slots) := by
  refine MetFree.of_bodySF (plainFor_of_name pn_4) hisR ?_
  intro p e s m args below meth c s₁ Bd hml0 hP hK
  obtain ⟨rfl, hZ, hh⟩ := hP
  have hx := Bd.exec
  have hby := Bd.bytes
  have hml : c.maxLocals = 3 := hml0
  have hown : s.vm.findClass "java/util/Arrays" = some m.cls := findClass_of_methodNamed Bd.named
  have hnm := (name_of_methodNamed Bd.named Bd.method).1
  have X0 : Stand p l e ({ frames := 1, cells := 1, slots := 2, locals := 40 } : Room) s m #[(.ref a1), (.int (0 : Int32))] below meth c s₁ [] 0 0 := Stand.of_body Bd
  have e0 : s₁.heap = h0 := by rw [← hh, Bd.state]; rfl
  have N0 := Fr.nil n0
  show EndsQ p.tables e below s (fun v h L => QCp20 Z a1 kA w0 w1 h0 n0 v h L) ({ frames := 1, cells := 1, slots := 2, locals := 40 } : Room).cells ({ frames := 1, cells := 1, slots := 2, locals := 40 } : Room).slots _
  refine EndsQ.go (b := s₁.setTop (mkF m 0 #[.val (.ref a1), .val (.int (0 : Int32)), .unset] [])) (fun t k => castTop (ef_Cp20 m a1 (0 : Int32)) k) ?_
  have K0 : Keep h0 h0 [] := Keep.refl _ _
  refine EndsQ.go (b := s₁.setTop (mkF m 2 #[.val (.ref a1), .val (.int (0 : Int32)), .unset] [(.ref a1), (.int (0 : Int32))])) (fun t k => ?_) ?_
  · show Steps p.tables e below (s₁.setTop (mkF m 0 #[.val (.ref a1), .val (.int (0 : Int32)), .unset] [])) _
    refine XS.iloadN X0.here hx rfl (hb hby d4_0) rfl ?_
    show Steps p.tables e below (s₁.setTop (mkF m 1 #[.val (.ref a1), .val (.int (0 : Int32)), .unset] [(.int (0 : Int32))])) _
    refine XS.aloadN X0.here hx rfl (hb hby d4_1) rfl rfl ?_
    show Steps p.tables e below (s₁.setTop (mkF m 2 #[.val (.ref a1), .val (.int (0 : Int32)), .unset] [(.ref a1), (.int (0 : Int32))])) _
    exact k
  obtain ⟨cl101, Ar101, -, S101, M101, -, -⟩ := id V1
  refine EndsQ.go (fun t k => X0.arraylength hx (by rw [e0]; exact Ar101.1) (State.isArrayOf_alike hZ.alike Ar101.2.1) (g := (mkF m 2 #[.val (.ref a1), .val (.int (0 : Int32)), .unset] [(.ref a1), (.int (0 : Int32))])) rfl rfl (hb hby d4_2) _ k) ?_
  rw [len_of S101 M101]
  show EndsQ _ _ _ _ _ _ _ (s₁.setTop (mkF m 3 #[.val (.ref a1), .val (.int (0 : Int32)), .unset] [(.int (2 : Int32)), (.int (0 : Int32))]))
  refine EndsQ.go (b := s₁.setTop (mkF m 15 #[.val (.ref a1), .val (.int (0 : Int32)), .unset] [(.int (0 : Int32))])) (fun t k => ?_) ?_
  · show Steps p.tables e below (s₁.setTop (mkF m 3 #[.val (.ref a1), .val (.int (0 : Int32)), .unset] [(.int (2 : Int32)), (.int (0 : Int32))])) _
    refine XS.icmpYes X0.here hx rfl (pc0 := 3) (pc' := 14) rfl (hb hby d4_3) rfl (feq (by decide)).2 (by decide) (by decide) ?_
    show Steps p.tables e below (s₁.setTop (mkF m 14 #[.val (.ref a1), .val (.int (0 : Int32)), .unset] [])) _
    refine XS.iloadN X0.here hx rfl (hb hby d4_14) rfl ?_
    show Steps p.tables e below (s₁.setTop (mkF m 15 #[.val (.ref a1), .val (.int (0 : Int32)), .unset] [(.int (0 : Int32))])) _
    exact k
  obtain ⟨T102, h102, k102, X102, e102, E102, A102, st102⟩ := newP X0 hx hZ (hw _ (List.mem_of_getElem? (i := 0) rfl)) e0 (g := (mkF m 15 #[.val (.ref a1), .val (.int (0 : Int32)), .unset] [(.int (0 : Int32))])) rfl (hb hby d4_15) rfl (by decide) (cap := 0) (by decide) (by decide) (by decide) (by decide)
  obtain ⟨b102, g102⟩ : ∃ z, z = h0.size := ⟨_, rfl⟩
  rw [← g102] at A102 st102
  have gn102 : n0 ≤ b102 := Nat.le_trans Z0 (Nat.le_of_eq g102.symm)
  have gh102 : h0.size ≤ b102 := Nat.le_trans K0.1 (Nat.le_of_eq g102.symm)
  have ne102_a1 : a1 ≠ b102 := Nat.ne_of_lt (Nat.lt_of_lt_of_le V1.lt (Nat.le_of_eq g102.symm))
  have f103 : Arv Z h102 a1 kA .long (2 : Int32) [(.long w0), (.long w1)] (.long (0 : Int64)) := V1.ext E102
  have f104 : n0 ≤ h102.size := Nat.le_trans Z0 E102.1
  have f105 : Keep h0 h102 [] := K0.ext E102
  have f106 : Arv Z h102 b102 k102 .long (0 : Int32) [] (.long (0 : Int64)) := (Arv.new A102 (by decide)).pad (pad_rep [] (.long (0 : Int64)) 0)
  refine EndsQ.go st102 ?_
  show EndsQ _ _ _ _ _ _ _ (T102.setTop (mkF m 17 #[.val (.ref a1), .val (.int (0 : Int32)), .unset] [(.ref b102)]))
  refine EndsQ.go (b := T102.setTop (mkF m 23 #[.val (.ref a1), .val (.int (0 : Int32)), .val (.ref b102)] [(.ref a1), (.int (0 : Int32)), (.ref b102), (.int (0 : Int32)), (.ref a1)])) (fun t k => ?_) ?_
  · show Steps p.tables e below (T102.setTop (mkF m 17 #[.val (.ref a1), .val (.int (0 : Int32)), .unset] [(.ref b102)])) _
    refine XS.astoreN X102.here hx rfl (hb hby d4_17) rfl rfl (l' := #[.val (.ref a1), .val (.int (0 : Int32)), .val (.ref b102)]) rfl ?_
    show Steps p.tables e below (T102.setTop (mkF m 18 #[.val (.ref a1), .val (.int (0 : Int32)), .val (.ref b102)] [])) _
    refine XS.aloadN X102.here hx rfl (hb hby d4_18) rfl rfl ?_
    show Steps p.tables e below (T102.setTop (mkF m 19 #[.val (.ref a1), .val (.int (0 : Int32)), .val (.ref b102)] [(.ref a1)])) _
    refine XS.iconst X102.here hx rfl (hb hby d4_19) ?_
    show Steps p.tables e below (T102.setTop (mkF m 20 #[.val (.ref a1), .val (.int (0 : Int32)), .val (.ref b102)] [(.int (0 : Int32)), (.ref a1)])) _
    refine XS.aloadN X102.here hx rfl (hb hby d4_20) rfl rfl ?_
    show Steps p.tables e below (T102.setTop (mkF m 21 #[.val (.ref a1), .val (.int (0 : Int32)), .val (.ref b102)] [(.ref b102), (.int (0 : Int32)), (.ref a1)])) _
    refine XS.iconst X102.here hx rfl (hb hby d4_21) ?_
    show Steps p.tables e below (T102.setTop (mkF m 22 #[.val (.ref a1), .val (.int (0 : Int32)), .val (.ref b102)] [(.int (0 : Int32)), (.ref b102), (.int (0 : Int32)), (.ref a1)])) _
    refine XS.aloadN X102.here hx rfl (hb hby d4_22) rfl rfl ?_
    show Steps p.tables e below (T102.setTop (mkF m 23 #[.val (.ref a1), .val (.int (0 : Int32)), .val (.ref b102)] [(.ref a1), (.int (0 : Int32)), (.ref b102), (.int (0 : Int32)), (.ref a1)])) _
    exact k
  obtain ⟨cl107, Ar107, -, S107, M107, -, -⟩ := id f103
  refine EndsQ.go (fun t k => X102.arraylength hx (by rw [e102]; exact Ar107.1) (State.isArrayOf_alike hZ.alike Ar107.2.1) (g := (mkF m 23 #[.val (.ref a1), .val (.int (0 : Int32)), .val (.ref b102)] [(.ref a1), (.int (0 : Int32)), (.ref b102), (.int (0 : Int32)), (.ref a1)])) rfl rfl (hb hby d4_23) _ k) ?_
  rw [len_of S107 M107]
  show EndsQ _ _ _ _ _ _ _ (T102.setTop (mkF m 24 #[.val (.ref a1), .val (.int (0 : Int32)), .val (.ref b102)] [(.int (2 : Int32)), (.int (0 : Int32)), (.ref b102), (.int (0 : Int32)), (.ref a1)]))
  refine EndsQ.go (b := T102.setTop (mkF m 25 #[.val (.ref a1), .val (.int (0 : Int32)), .val (.ref b102)] [(.int (0 : Int32)), (.int (2 : Int32)), (.int (0 : Int32)), (.ref b102), (.int (0 : Int32)), (.ref a1)])) (fun t k => ?_) ?_
  · show Steps p.tables e below (T102.setTop (mkF m 24 #[.val (.ref a1), .val (.int (0 : Int32)), .val (.ref b102)] [(.int (2 : Int32)), (.int (0 : Int32)), (.ref b102), (.int (0 : Int32)), (.ref a1)])) _
    refine XS.iloadN X102.here hx rfl (hb hby d4_24) rfl ?_
    show Steps p.tables e below (T102.setTop (mkF m 25 #[.val (.ref a1), .val (.int (0 : Int32)), .val (.ref b102)] [(.int (0 : Int32)), (.int (2 : Int32)), (.int (0 : Int32)), (.ref b102), (.int (0 : Int32)), (.ref a1)])) _
    exact k
  obtain ⟨_, _, ⟨T108, L108, kk108, nn108⟩, -, X108, ⟨Lc108, hQ108, l108, y108, z108⟩, st108⟩ := Jvm.LawKit.callS X102 hx (y := (⟨"java/lang/Math", "min", "(II)I"⟩ : MethodName)) hown (mvT hZ (hw _ (List.mem_of_getElem? (i := 22) rfl))) (mvT hZ (hw _ (List.mem_of_getElem? (i := 23) rfl))) (mvT hZ (hw _ (List.mem_of_getElem? (i := 24) rfl))) (mvT hZ (hw _ (List.mem_of_getElem? (i := 25) rfl))) (by decide) (backOf (W := 4) (rm5 l Z a0 hw [] (2 : Int32) (0 : Int32) h102 n0 f104 ) hZ (hw _ (List.mem_of_getElem? (i := 25) rfl)) (hw _ (List.mem_of_getElem? (i := 24) rfl)) (by decide) (by decide)) (g := (mkF m 25 #[.val (.ref a1), .val (.int (0 : Int32)), .val (.ref b102)] [(.int (0 : Int32)), (.int (2 : Int32)), (.int (0 : Int32)), (.ref b102), (.int (0 : Int32)), (.ref a1)])) rfl (by rw [hml]; rfl) (argsL := [(.int (2 : Int32)), (.int (0 : Int32))]) (rest := [(.int (0 : Int32)), (.ref b102), (.int (0 : Int32)), (.ref a1)]) (lenOf pd_0 rfl) rfl (by show 2 * 0 + _ ≤ _; exact Nat.le_of_eq rfl) (hb hby d4_25) (fun _ _ => ⟨rfl, e102, (by decide : 1 + 0 ≤ _), (by decide : 0 + 0 ≤ _)⟩)
  dsimp only [Pt.U, Pt.locs, Pt.cells, Pt.slots] at X108 l108 y108 z108 st108 hQ108
  subst l108 y108 z108
  obtain ⟨rfl, Nq108, eq108⟩ := hQ108
  have N108 := Fr.app N0 Nq108
  refine EndsQ.go st108 ?_
  show EndsQ _ _ _ _ _ _ _ (T108.setTop (mkF m 28 #[.val (.ref a1), .val (.int (0 : Int32)), .val (.ref b102)] [(.int (own_minI (2 : Int32) (0 : Int32))), (.int (0 : Int32)), (.ref b102), (.int (0 : Int32)), (.ref a1)]))
  rw [(by decide : (own_minI (2 : Int32) (0 : Int32)) = (0 : Int32))]
  show EndsQ _ _ _ _ _ _ _ (T108.setTop (mkF m 28 #[.val (.ref a1), .val (.int (0 : Int32)), .val (.ref b102)] [(.int (0 : Int32)), (.int (0 : Int32)), (.ref b102), (.int (0 : Int32)), (.ref a1)]))
  obtain ⟨T109, h109, Lx109, X109, e109, N109, K109, V109, st109⟩ := cpA X108 hx hZ hown (hw _ (List.mem_of_getElem? (i := 26) rfl)) (hw _ (List.mem_of_getElem? (i := 29) rfl)) (hw _ (List.mem_of_getElem? (i := 27) rfl)) (hw _ (List.mem_of_getElem? (i := 28) rfl)) eq108 (sp := (0 : Int32)) (dp := (0 : Int32)) (nn := (0 : Int32)) f103 f106 (Or.inl ⟨rfl, rfl⟩) (by decide) (by decide) (by decide) (by decide) (by decide) rfl (by decide) N108 gn102 (g := (mkF m 28 #[.val (.ref a1), .val (.int (0 : Int32)), .val (.ref b102)] [(.int (0 : Int32)), (.int (0 : Int32)), (.ref b102), (.int (0 : Int32)), (.ref a1)])) rfl (by rw [hml]; rfl) rfl (hb hby d4_28) (by decide) (W := 0) (by show 2 * 0 + _ ≤ _; exact Nat.le_of_eq rfl) (by decide)
  have VV109 : Arv Z h109 b102 k102 .long (0 : Int32) [] (.long (0 : Int64)) := V109
  have f110 : Arv Z h109 a1 kA .long (2 : Int32) [(.long w0), (.long w1)] (.long (0 : Int64)) := f103.keep K109 (ninS ne102_a1 nin0)
  have f111 : n0 ≤ h109.size := Nat.le_trans f104 K109.1
  have f112 : Keep h0 h109 [] := f105.trans K109 (allS (Or.inr gh102) all0)
  refine EndsQ.go st109 ?_
  show EndsQ _ _ _ _ _ _ _ (T109.setTop (mkF m 31 #[.val (.ref a1), .val (.int (0 : Int32)), .val (.ref b102)] []))
  refine EndsQ.go (b := T109.setTop (mkF m 32 #[.val (.ref a1), .val (.int (0 : Int32)), .val (.ref b102)] [(.ref b102)])) (fun t k => ?_) ?_
  · show Steps p.tables e below (T109.setTop (mkF m 31 #[.val (.ref a1), .val (.int (0 : Int32)), .val (.ref b102)] [])) _
    refine XS.aloadN X109.here hx rfl (hb hby d4_31) rfl rfl ?_
    show Steps p.tables e below (T109.setTop (mkF m 32 #[.val (.ref a1), .val (.int (0 : Int32)), .val (.ref b102)] [(.ref b102)])) _
    exact k
  refine EndsQ.retA X109 hx Bd.notSynchronized (w := (.ref b102)) Bd.returns rfl rfl rfl (hb hby d4_32) (by decide) (by decide) ?_
  show QCp20 Z a1 kA w0 w1 h0 n0 (some (.ref b102)) T109.heap _
  rw [e109]
  exact ⟨b102, k102, rfl, N109, f112, gn102, gh102, VV109⟩
theorem ef_Cp21 (m : MethodId) (x0 : Addr) (x1 : Int32) : entryFrame m #[(.ref x0), (.int x1)] 3 = mkF m 0 #[.val (.ref x0), .val (.int x1), .unset] [] := by first | (simp [entryFrame, mkF, argsToLocals, Value.category]; done) | rfl
def QCp21 (Z : State) (a1 : Addr) (kA : ClassId) (w0 : Int64) (w1 : Int64) (h0 : Heap) (n0 : Nat) (v : Option Value) (h : Heap) (L : List Loc) : Prop := ∃ (b : Addr) (kB : ClassId), v = some (.ref b) ∧ Fr n0 L ∧ Keep h0 h [] ∧ n0 ≤ b ∧ h0.size ≤ b ∧ Arv Z h b kB .long (1 : Int32) [(.long w0)] (.long (0 : Int64))
set_option maxRecDepth 65536 in
set_option maxHeartbeats 40000000 in
theorem rmCp21 (l : Launch) (Z : State) (a0 : Array Value) (hw : ∀ d ∈ tables_1, d.before a0 Z = true) (ws : List Jvm.Cond) (a1 : Addr) (kA : ClassId) (w0 : Int64) (w1 : Int64) (h0 : Heap) (n0 : Nat) (Z0 : n0 ≤ h0.size) (V1 : Arv Z h0 a1 kA .long (2 : Int32) [(.long w0), (.long w1)] (.long (0 : Int64))) :
    MetFree l (⟨"java/util/Arrays", "copyOf", "([JI)[J"⟩ : MethodName) (head1 (Jvm.Cond.code (⟨"java/util/Arrays", "copyOf", "([JI)[J"⟩ : MethodName) jdk_65_method_124_code 3 (some (.array .long)) :: ws) ({ frames := 1, cells := 1, slots := 2, locals := 40 } : Room)) (fun a U => a = #[(.ref a1), (.int (1 : Int32))] ∧ Z.Warmed39 U.vm ∧ U.heap = h0) (fun _ _ _ _ _ => True) (fun _ U o U' => ∃ v L, o = .returned v ∧ QCp21 Z a1 kA w0 w1 h0 n0 v U'.heap L ∧ FrameEnd U o U' L ({ frames := 1, cells := 1, slots := 2, locals := 40 } : Room).cells ({ frames := 1, cells := 1, slots := 2, locals := 40 } : Room).slots) := by
  refine MetFree.of_bodySF (plainFor_of_name pn_4) hisR ?_
  intro p e s m args below meth c s₁ Bd hml0 hP hK
  obtain ⟨rfl, hZ, hh⟩ := hP
  have hx := Bd.exec
  have hby := Bd.bytes
  have hml : c.maxLocals = 3 := hml0
  have hown : s.vm.findClass "java/util/Arrays" = some m.cls := findClass_of_methodNamed Bd.named
  have hnm := (name_of_methodNamed Bd.named Bd.method).1
  have X0 : Stand p l e ({ frames := 1, cells := 1, slots := 2, locals := 40 } : Room) s m #[(.ref a1), (.int (1 : Int32))] below meth c s₁ [] 0 0 := Stand.of_body Bd
  have e0 : s₁.heap = h0 := by rw [← hh, Bd.state]; rfl
  have N0 := Fr.nil n0
  show EndsQ p.tables e below s (fun v h L => QCp21 Z a1 kA w0 w1 h0 n0 v h L) ({ frames := 1, cells := 1, slots := 2, locals := 40 } : Room).cells ({ frames := 1, cells := 1, slots := 2, locals := 40 } : Room).slots _
  refine EndsQ.go (b := s₁.setTop (mkF m 0 #[.val (.ref a1), .val (.int (1 : Int32)), .unset] [])) (fun t k => castTop (ef_Cp21 m a1 (1 : Int32)) k) ?_
  have K0 : Keep h0 h0 [] := Keep.refl _ _
  refine EndsQ.go (b := s₁.setTop (mkF m 2 #[.val (.ref a1), .val (.int (1 : Int32)), .unset] [(.ref a1), (.int (1 : Int32))])) (fun t k => ?_) ?_
  · show Steps p.tables e below (s₁.setTop (mkF m 0 #[.val (.ref a1), .val (.int (1 : Int32)), .unset] [])) _
    refine XS.iloadN X0.here hx rfl (hb hby d4_0) rfl ?_
    show Steps p.tables e below (s₁.setTop (mkF m 1 #[.val (.ref a1), .val (.int (1 : Int32)), .unset] [(.int (1 : Int32))])) _
    refine XS.aloadN X0.here hx rfl (hb hby d4_1) rfl rfl ?_
    show Steps p.tables e below (s₁.setTop (mkF m 2 #[.val (.ref a1), .val (.int (1 : Int32)), .unset] [(.ref a1), (.int (1 : Int32))])) _
    exact k
  obtain ⟨cl101, Ar101, -, S101, M101, -, -⟩ := id V1
  refine EndsQ.go (fun t k => X0.arraylength hx (by rw [e0]; exact Ar101.1) (State.isArrayOf_alike hZ.alike Ar101.2.1) (g := (mkF m 2 #[.val (.ref a1), .val (.int (1 : Int32)), .unset] [(.ref a1), (.int (1 : Int32))])) rfl rfl (hb hby d4_2) _ k) ?_
  rw [len_of S101 M101]
  show EndsQ _ _ _ _ _ _ _ (s₁.setTop (mkF m 3 #[.val (.ref a1), .val (.int (1 : Int32)), .unset] [(.int (2 : Int32)), (.int (1 : Int32))]))
  refine EndsQ.go (b := s₁.setTop (mkF m 15 #[.val (.ref a1), .val (.int (1 : Int32)), .unset] [(.int (1 : Int32))])) (fun t k => ?_) ?_
  · show Steps p.tables e below (s₁.setTop (mkF m 3 #[.val (.ref a1), .val (.int (1 : Int32)), .unset] [(.int (2 : Int32)), (.int (1 : Int32))])) _
    refine XS.icmpYes X0.here hx rfl (pc0 := 3) (pc' := 14) rfl (hb hby d4_3) rfl (feq (by decide)).2 (by decide) (by decide) ?_
    show Steps p.tables e below (s₁.setTop (mkF m 14 #[.val (.ref a1), .val (.int (1 : Int32)), .unset] [])) _
    refine XS.iloadN X0.here hx rfl (hb hby d4_14) rfl ?_
    show Steps p.tables e below (s₁.setTop (mkF m 15 #[.val (.ref a1), .val (.int (1 : Int32)), .unset] [(.int (1 : Int32))])) _
    exact k
  obtain ⟨T102, h102, k102, X102, e102, E102, A102, st102⟩ := newP X0 hx hZ (hw _ (List.mem_of_getElem? (i := 0) rfl)) e0 (g := (mkF m 15 #[.val (.ref a1), .val (.int (1 : Int32)), .unset] [(.int (1 : Int32))])) rfl (hb hby d4_15) rfl (by decide) (cap := 1) (by decide) (by decide) (by decide) (by decide)
  obtain ⟨b102, g102⟩ : ∃ z, z = h0.size := ⟨_, rfl⟩
  rw [← g102] at A102 st102
  have gn102 : n0 ≤ b102 := Nat.le_trans Z0 (Nat.le_of_eq g102.symm)
  have gh102 : h0.size ≤ b102 := Nat.le_trans K0.1 (Nat.le_of_eq g102.symm)
  have ne102_a1 : a1 ≠ b102 := Nat.ne_of_lt (Nat.lt_of_lt_of_le V1.lt (Nat.le_of_eq g102.symm))
  have f103 : Arv Z h102 a1 kA .long (2 : Int32) [(.long w0), (.long w1)] (.long (0 : Int64)) := V1.ext E102
  have f104 : n0 ≤ h102.size := Nat.le_trans Z0 E102.1
  have f105 : Keep h0 h102 [] := K0.ext E102
  have f106 : Arv Z h102 b102 k102 .long (1 : Int32) [(.long (0 : Int64))] (.long (0 : Int64)) := (Arv.new A102 (by decide)).pad (pad_rep [] (.long (0 : Int64)) 1)
  refine EndsQ.go st102 ?_
  show EndsQ _ _ _ _ _ _ _ (T102.setTop (mkF m 17 #[.val (.ref a1), .val (.int (1 : Int32)), .unset] [(.ref b102)]))
  refine EndsQ.go (b := T102.setTop (mkF m 23 #[.val (.ref a1), .val (.int (1 : Int32)), .val (.ref b102)] [(.ref a1), (.int (0 : Int32)), (.ref b102), (.int (0 : Int32)), (.ref a1)])) (fun t k => ?_) ?_
  · show Steps p.tables e below (T102.setTop (mkF m 17 #[.val (.ref a1), .val (.int (1 : Int32)), .unset] [(.ref b102)])) _
    refine XS.astoreN X102.here hx rfl (hb hby d4_17) rfl rfl (l' := #[.val (.ref a1), .val (.int (1 : Int32)), .val (.ref b102)]) rfl ?_
    show Steps p.tables e below (T102.setTop (mkF m 18 #[.val (.ref a1), .val (.int (1 : Int32)), .val (.ref b102)] [])) _
    refine XS.aloadN X102.here hx rfl (hb hby d4_18) rfl rfl ?_
    show Steps p.tables e below (T102.setTop (mkF m 19 #[.val (.ref a1), .val (.int (1 : Int32)), .val (.ref b102)] [(.ref a1)])) _
    refine XS.iconst X102.here hx rfl (hb hby d4_19) ?_
    show Steps p.tables e below (T102.setTop (mkF m 20 #[.val (.ref a1), .val (.int (1 : Int32)), .val (.ref b102)] [(.int (0 : Int32)), (.ref a1)])) _
    refine XS.aloadN X102.here hx rfl (hb hby d4_20) rfl rfl ?_
    show Steps p.tables e below (T102.setTop (mkF m 21 #[.val (.ref a1), .val (.int (1 : Int32)), .val (.ref b102)] [(.ref b102), (.int (0 : Int32)), (.ref a1)])) _
    refine XS.iconst X102.here hx rfl (hb hby d4_21) ?_
    show Steps p.tables e below (T102.setTop (mkF m 22 #[.val (.ref a1), .val (.int (1 : Int32)), .val (.ref b102)] [(.int (0 : Int32)), (.ref b102), (.int (0 : Int32)), (.ref a1)])) _
    refine XS.aloadN X102.here hx rfl (hb hby d4_22) rfl rfl ?_
    show Steps p.tables e below (T102.setTop (mkF m 23 #[.val (.ref a1), .val (.int (1 : Int32)), .val (.ref b102)] [(.ref a1), (.int (0 : Int32)), (.ref b102), (.int (0 : Int32)), (.ref a1)])) _
    exact k
  obtain ⟨cl107, Ar107, -, S107, M107, -, -⟩ := id f103
  refine EndsQ.go (fun t k => X102.arraylength hx (by rw [e102]; exact Ar107.1) (State.isArrayOf_alike hZ.alike Ar107.2.1) (g := (mkF m 23 #[.val (.ref a1), .val (.int (1 : Int32)), .val (.ref b102)] [(.ref a1), (.int (0 : Int32)), (.ref b102), (.int (0 : Int32)), (.ref a1)])) rfl rfl (hb hby d4_23) _ k) ?_
  rw [len_of S107 M107]
  show EndsQ _ _ _ _ _ _ _ (T102.setTop (mkF m 24 #[.val (.ref a1), .val (.int (1 : Int32)), .val (.ref b102)] [(.int (2 : Int32)), (.int (0 : Int32)), (.ref b102), (.int (0 : Int32)), (.ref a1)]))
  refine EndsQ.go (b := T102.setTop (mkF m 25 #[.val (.ref a1), .val (.int (1 : Int32)), .val (.ref b102)] [(.int (1 : Int32)), (.int (2 : Int32)), (.int (0 : Int32)), (.ref b102), (.int (0 : Int32)), (.ref a1)])) (fun t k => ?_) ?_
  · show Steps p.tables e below (T102.setTop (mkF m 24 #[.val (.ref a1), .val (.int (1 : Int32)), .val (.ref b102)] [(.int (2 : Int32)), (.int (0 : Int32)), (.ref b102), (.int (0 : Int32)), (.ref a1)])) _
    refine XS.iloadN X102.here hx rfl (hb hby d4_24) rfl ?_
    show Steps p.tables e below (T102.setTop (mkF m 25 #[.val (.ref a1), .val (.int (1 : Int32)), .val (.ref b102)] [(.int (1 : Int32)), (.int (2 : Int32)), (.int (0 : Int32)), (.ref b102), (.int (0 : Int32)), (.ref a1)])) _
    exact k
  obtain ⟨_, _, ⟨T108, L108, kk108, nn108⟩, -, X108, ⟨Lc108, hQ108, l108, y108, z108⟩, st108⟩ := Jvm.LawKit.callS X102 hx (y := (⟨"java/lang/Math", "min", "(II)I"⟩ : MethodName)) hown (mvT hZ (hw _ (List.mem_of_getElem? (i := 22) rfl))) (mvT hZ (hw _ (List.mem_of_getElem? (i := 23) rfl))) (mvT hZ (hw _ (List.mem_of_getElem? (i := 24) rfl))) (mvT hZ (hw _ (List.mem_of_getElem? (i := 25) rfl))) (by decide) (backOf (W := 4) (rm5 l Z a0 hw [] (2 : Int32) (1 : Int32) h102 n0 f104 ) hZ (hw _ (List.mem_of_getElem? (i := 25) rfl)) (hw _ (List.mem_of_getElem? (i := 24) rfl)) (by decide) (by decide)) (g := (mkF m 25 #[.val (.ref a1), .val (.int (1 : Int32)), .val (.ref b102)] [(.int (1 : Int32)), (.int (2 : Int32)), (.int (0 : Int32)), (.ref b102), (.int (0 : Int32)), (.ref a1)])) rfl (by rw [hml]; rfl) (argsL := [(.int (2 : Int32)), (.int (1 : Int32))]) (rest := [(.int (0 : Int32)), (.ref b102), (.int (0 : Int32)), (.ref a1)]) (lenOf pd_0 rfl) rfl (by show 2 * 0 + _ ≤ _; exact Nat.le_of_eq rfl) (hb hby d4_25) (fun _ _ => ⟨rfl, e102, (by decide : 1 + 0 ≤ _), (by decide : 1 + 0 ≤ _)⟩)
  dsimp only [Pt.U, Pt.locs, Pt.cells, Pt.slots] at X108 l108 y108 z108 st108 hQ108
  subst l108 y108 z108
  obtain ⟨rfl, Nq108, eq108⟩ := hQ108
  have N108 := Fr.app N0 Nq108
  refine EndsQ.go st108 ?_
  show EndsQ _ _ _ _ _ _ _ (T108.setTop (mkF m 28 #[.val (.ref a1), .val (.int (1 : Int32)), .val (.ref b102)] [(.int (own_minI (2 : Int32) (1 : Int32))), (.int (0 : Int32)), (.ref b102), (.int (0 : Int32)), (.ref a1)]))
  rw [(by decide : (own_minI (2 : Int32) (1 : Int32)) = (1 : Int32))]
  show EndsQ _ _ _ _ _ _ _ (T108.setTop (mkF m 28 #[.val (.ref a1), .val (.int (1 : Int32)), .val (.ref b102)] [(.int (1 : Int32)), (.int (0 : Int32)), (.ref b102), (.int (0 : Int32)), (.ref a1)]))
  obtain ⟨T109, h109, Lx109, X109, e109, N109, K109, V109, st109⟩ := cpA X108 hx hZ hown (hw _ (List.mem_of_getElem? (i := 26) rfl)) (hw _ (List.mem_of_getElem? (i := 29) rfl)) (hw _ (List.mem_of_getElem? (i := 27) rfl)) (hw _ (List.mem_of_getElem? (i := 28) rfl)) eq108 (sp := (0 : Int32)) (dp := (0 : Int32)) (nn := (1 : Int32)) f103 f106 (Or.inl ⟨rfl, rfl⟩) (by decide) (by decide) (by decide) (by decide) (by decide) rfl (by decide) N108 gn102 (g := (mkF m 28 #[.val (.ref a1), .val (.int (1 : Int32)), .val (.ref b102)] [(.int (1 : Int32)), (.int (0 : Int32)), (.ref b102), (.int (0 : Int32)), (.ref a1)])) rfl (by rw [hml]; rfl) rfl (hb hby d4_28) (by decide) (W := 0) (by show 2 * 0 + _ ≤ _; exact Nat.le_of_eq rfl) (by decide)
  have VV109 : Arv Z h109 b102 k102 .long (1 : Int32) [(.long w0)] (.long (0 : Int64)) := V109
  have f110 : Arv Z h109 a1 kA .long (2 : Int32) [(.long w0), (.long w1)] (.long (0 : Int64)) := f103.keep K109 (ninS ne102_a1 nin0)
  have f111 : n0 ≤ h109.size := Nat.le_trans f104 K109.1
  have f112 : Keep h0 h109 [] := f105.trans K109 (allS (Or.inr gh102) all0)
  refine EndsQ.go st109 ?_
  show EndsQ _ _ _ _ _ _ _ (T109.setTop (mkF m 31 #[.val (.ref a1), .val (.int (1 : Int32)), .val (.ref b102)] []))
  refine EndsQ.go (b := T109.setTop (mkF m 32 #[.val (.ref a1), .val (.int (1 : Int32)), .val (.ref b102)] [(.ref b102)])) (fun t k => ?_) ?_
  · show Steps p.tables e below (T109.setTop (mkF m 31 #[.val (.ref a1), .val (.int (1 : Int32)), .val (.ref b102)] [])) _
    refine XS.aloadN X109.here hx rfl (hb hby d4_31) rfl rfl ?_
    show Steps p.tables e below (T109.setTop (mkF m 32 #[.val (.ref a1), .val (.int (1 : Int32)), .val (.ref b102)] [(.ref b102)])) _
    exact k
  refine EndsQ.retA X109 hx Bd.notSynchronized (w := (.ref b102)) Bd.returns rfl rfl rfl (hb hby d4_32) (by decide) (by decide) ?_
  show QCp21 Z a1 kA w0 w1 h0 n0 (some (.ref b102)) T109.heap _
  rw [e109]
  exact ⟨b102, k102, rfl, N109, f112, gn102, gh102, VV109⟩
theorem ef_Cp30 (m : MethodId) (x0 : Addr) (x1 : Int32) : entryFrame m #[(.ref x0), (.int x1)] 3 = mkF m 0 #[.val (.ref x0), .val (.int x1), .unset] [] := by first | (simp [entryFrame, mkF, argsToLocals, Value.category]; done) | rfl
def QCp30 (Z : State) (a1 : Addr) (kA : ClassId) (w0 : Int64) (w1 : Int64) (w2 : Int64) (h0 : Heap) (n0 : Nat) (v : Option Value) (h : Heap) (L : List Loc) : Prop := ∃ (b : Addr) (kB : ClassId), v = some (.ref b) ∧ Fr n0 L ∧ Keep h0 h [] ∧ n0 ≤ b ∧ h0.size ≤ b ∧ Arv Z h b kB .long (0 : Int32) [] (.long (0 : Int64))
set_option maxRecDepth 65536 in
set_option maxHeartbeats 40000000 in
theorem rmCp30 (l : Launch) (Z : State) (a0 : Array Value) (hw : ∀ d ∈ tables_1, d.before a0 Z = true) (ws : List Jvm.Cond) (a1 : Addr) (kA : ClassId) (w0 : Int64) (w1 : Int64) (w2 : Int64) (h0 : Heap) (n0 : Nat) (Z0 : n0 ≤ h0.size) (V1 : Arv Z h0 a1 kA .long (3 : Int32) [(.long w0), (.long w1), (.long w2)] (.long (0 : Int64))) :
    MetFree l (⟨"java/util/Arrays", "copyOf", "([JI)[J"⟩ : MethodName) (head1 (Jvm.Cond.code (⟨"java/util/Arrays", "copyOf", "([JI)[J"⟩ : MethodName) jdk_65_method_124_code 3 (some (.array .long)) :: ws) ({ frames := 1, cells := 1, slots := 2, locals := 40 } : Room)) (fun a U => a = #[(.ref a1), (.int (0 : Int32))] ∧ Z.Warmed39 U.vm ∧ U.heap = h0) (fun _ _ _ _ _ => True) (fun _ U o U' => ∃ v L, o = .returned v ∧ QCp30 Z a1 kA w0 w1 w2 h0 n0 v U'.heap L ∧ FrameEnd U o U' L ({ frames := 1, cells := 1, slots := 2, locals := 40 } : Room).cells ({ frames := 1, cells := 1, slots := 2, locals := 40 } : Room).slots) := by
  refine MetFree.of_bodySF (plainFor_of_name pn_4) hisR ?_
  intro p e s m args below meth c s₁ Bd hml0 hP hK
  obtain ⟨rfl, hZ, hh⟩ := hP
  have hx := Bd.exec
  have hby := Bd.bytes
  have hml : c.maxLocals = 3 := hml0
  have hown : s.vm.findClass "java/util/Arrays" = some m.cls := findClass_of_methodNamed Bd.named
  have hnm := (name_of_methodNamed Bd.named Bd.method).1
  have X0 : Stand p l e ({ frames := 1, cells := 1, slots := 2, locals := 40 } : Room) s m #[(.ref a1), (.int (0 : Int32))] below meth c s₁ [] 0 0 := Stand.of_body Bd
  have e0 : s₁.heap = h0 := by rw [← hh, Bd.state]; rfl
  have N0 := Fr.nil n0
  show EndsQ p.tables e below s (fun v h L => QCp30 Z a1 kA w0 w1 w2 h0 n0 v h L) ({ frames := 1, cells := 1, slots := 2, locals := 40 } : Room).cells ({ frames := 1, cells := 1, slots := 2, locals := 40 } : Room).slots _
  refine EndsQ.go (b := s₁.setTop (mkF m 0 #[.val (.ref a1), .val (.int (0 : Int32)), .unset] [])) (fun t k => castTop (ef_Cp30 m a1 (0 : Int32)) k) ?_
  have K0 : Keep h0 h0 [] := Keep.refl _ _
  refine EndsQ.go (b := s₁.setTop (mkF m 2 #[.val (.ref a1), .val (.int (0 : Int32)), .unset] [(.ref a1), (.int (0 : Int32))])) (fun t k => ?_) ?_
  · show Steps p.tables e below (s₁.setTop (mkF m 0 #[.val (.ref a1), .val (.int (0 : Int32)), .unset] [])) _
    refine XS.iloadN X0.here hx rfl (hb hby d4_0) rfl ?_
    show Steps p.tables e below (s₁.setTop (mkF m 1 #[.val (.ref a1), .val (.int (0 : Int32)), .unset] [(.int (0 : Int32))])) _
    refine XS.aloadN X0.here hx rfl (hb hby d4_1) rfl rfl ?_
    show Steps p.tables e below (s₁.setTop (mkF m 2 #[.val (.ref a1), .val (.int (0 : Int32)), .unset] [(.ref a1), (.int (0 : Int32))])) _
    exact k
  obtain ⟨cl101, Ar101, -, S101, M101, -, -⟩ := id V1
  refine EndsQ.go (fun t k => X0.arraylength hx (by rw [e0]; exact Ar101.1) (State.isArrayOf_alike hZ.alike Ar101.2.1) (g := (mkF m 2 #[.val (.ref a1), .val (.int (0 : Int32)), .unset] [(.ref a1), (.int (0 : Int32))])) rfl rfl (hb hby d4_2) _ k) ?_
  rw [len_of S101 M101]
  show EndsQ _ _ _ _ _ _ _ (s₁.setTop (mkF m 3 #[.val (.ref a1), .val (.int (0 : Int32)), .unset] [(.int (3 : Int32)), (.int (0 : Int32))]))
  refine EndsQ.go (b := s₁.setTop (mkF m 15 #[.val (.ref a1), .val (.int (0 : Int32)), .unset] [(.int (0 : Int32))])) (fun t k => ?_) ?_
  · show Steps p.tables e below (s₁.setTop (mkF m 3 #[.val (.ref a1), .val (.int (0 : Int32)), .unset] [(.int (3 : Int32)), (.int (0 : Int32))])) _
    refine XS.icmpYes X0.here hx rfl (pc0 := 3) (pc' := 14) rfl (hb hby d4_3) rfl (feq (by decide)).2 (by decide) (by decide) ?_
    show Steps p.tables e below (s₁.setTop (mkF m 14 #[.val (.ref a1), .val (.int (0 : Int32)), .unset] [])) _
    refine XS.iloadN X0.here hx rfl (hb hby d4_14) rfl ?_
    show Steps p.tables e below (s₁.setTop (mkF m 15 #[.val (.ref a1), .val (.int (0 : Int32)), .unset] [(.int (0 : Int32))])) _
    exact k
  obtain ⟨T102, h102, k102, X102, e102, E102, A102, st102⟩ := newP X0 hx hZ (hw _ (List.mem_of_getElem? (i := 0) rfl)) e0 (g := (mkF m 15 #[.val (.ref a1), .val (.int (0 : Int32)), .unset] [(.int (0 : Int32))])) rfl (hb hby d4_15) rfl (by decide) (cap := 0) (by decide) (by decide) (by decide) (by decide)
  obtain ⟨b102, g102⟩ : ∃ z, z = h0.size := ⟨_, rfl⟩
  rw [← g102] at A102 st102
  have gn102 : n0 ≤ b102 := Nat.le_trans Z0 (Nat.le_of_eq g102.symm)
  have gh102 : h0.size ≤ b102 := Nat.le_trans K0.1 (Nat.le_of_eq g102.symm)
  have ne102_a1 : a1 ≠ b102 := Nat.ne_of_lt (Nat.lt_of_lt_of_le V1.lt (Nat.le_of_eq g102.symm))
  have f103 : Arv Z h102 a1 kA .long (3 : Int32) [(.long w0), (.long w1), (.long w2)] (.long (0 : Int64)) := V1.ext E102
  have f104 : n0 ≤ h102.size := Nat.le_trans Z0 E102.1
  have f105 : Keep h0 h102 [] := K0.ext E102
  have f106 : Arv Z h102 b102 k102 .long (0 : Int32) [] (.long (0 : Int64)) := (Arv.new A102 (by decide)).pad (pad_rep [] (.long (0 : Int64)) 0)
  refine EndsQ.go st102 ?_
  show EndsQ _ _ _ _ _ _ _ (T102.setTop (mkF m 17 #[.val (.ref a1), .val (.int (0 : Int32)), .unset] [(.ref b102)]))
  refine EndsQ.go (b := T102.setTop (mkF m 23 #[.val (.ref a1), .val (.int (0 : Int32)), .val (.ref b102)] [(.ref a1), (.int (0 : Int32)), (.ref b102), (.int (0 : Int32)), (.ref a1)])) (fun t k => ?_) ?_
  · show Steps p.tables e below (T102.setTop (mkF m 17 #[.val (.ref a1), .val (.int (0 : Int32)), .unset] [(.ref b102)])) _
    refine XS.astoreN X102.here hx rfl (hb hby d4_17) rfl rfl (l' := #[.val (.ref a1), .val (.int (0 : Int32)), .val (.ref b102)]) rfl ?_
    show Steps p.tables e below (T102.setTop (mkF m 18 #[.val (.ref a1), .val (.int (0 : Int32)), .val (.ref b102)] [])) _
    refine XS.aloadN X102.here hx rfl (hb hby d4_18) rfl rfl ?_
    show Steps p.tables e below (T102.setTop (mkF m 19 #[.val (.ref a1), .val (.int (0 : Int32)), .val (.ref b102)] [(.ref a1)])) _
    refine XS.iconst X102.here hx rfl (hb hby d4_19) ?_
    show Steps p.tables e below (T102.setTop (mkF m 20 #[.val (.ref a1), .val (.int (0 : Int32)), .val (.ref b102)] [(.int (0 : Int32)), (.ref a1)])) _
    refine XS.aloadN X102.here hx rfl (hb hby d4_20) rfl rfl ?_
    show Steps p.tables e below (T102.setTop (mkF m 21 #[.val (.ref a1), .val (.int (0 : Int32)), .val (.ref b102)] [(.ref b102), (.int (0 : Int32)), (.ref a1)])) _
    refine XS.iconst X102.here hx rfl (hb hby d4_21) ?_
    show Steps p.tables e below (T102.setTop (mkF m 22 #[.val (.ref a1), .val (.int (0 : Int32)), .val (.ref b102)] [(.int (0 : Int32)), (.ref b102), (.int (0 : Int32)), (.ref a1)])) _
    refine XS.aloadN X102.here hx rfl (hb hby d4_22) rfl rfl ?_
    show Steps p.tables e below (T102.setTop (mkF m 23 #[.val (.ref a1), .val (.int (0 : Int32)), .val (.ref b102)] [(.ref a1), (.int (0 : Int32)), (.ref b102), (.int (0 : Int32)), (.ref a1)])) _
    exact k
  obtain ⟨cl107, Ar107, -, S107, M107, -, -⟩ := id f103
  refine EndsQ.go (fun t k => X102.arraylength hx (by rw [e102]; exact Ar107.1) (State.isArrayOf_alike hZ.alike Ar107.2.1) (g := (mkF m 23 #[.val (.ref a1), .val (.int (0 : Int32)), .val (.ref b102)] [(.ref a1), (.int (0 : Int32)), (.ref b102), (.int (0 : Int32)), (.ref a1)])) rfl rfl (hb hby d4_23) _ k) ?_
  rw [len_of S107 M107]
  show EndsQ _ _ _ _ _ _ _ (T102.setTop (mkF m 24 #[.val (.ref a1), .val (.int (0 : Int32)), .val (.ref b102)] [(.int (3 : Int32)), (.int (0 : Int32)), (.ref b102), (.int (0 : Int32)), (.ref a1)]))
  refine EndsQ.go (b := T102.setTop (mkF m 25 #[.val (.ref a1), .val (.int (0 : Int32)), .val (.ref b102)] [(.int (0 : Int32)), (.int (3 : Int32)), (.int (0 : Int32)), (.ref b102), (.int (0 : Int32)), (.ref a1)])) (fun t k => ?_) ?_
  · show Steps p.tables e below (T102.setTop (mkF m 24 #[.val (.ref a1), .val (.int (0 : Int32)), .val (.ref b102)] [(.int (3 : Int32)), (.int (0 : Int32)), (.ref b102), (.int (0 : Int32)), (.ref a1)])) _
    refine XS.iloadN X102.here hx rfl (hb hby d4_24) rfl ?_
    show Steps p.tables e below (T102.setTop (mkF m 25 #[.val (.ref a1), .val (.int (0 : Int32)), .val (.ref b102)] [(.int (0 : Int32)), (.int (3 : Int32)), (.int (0 : Int32)), (.ref b102), (.int (0 : Int32)), (.ref a1)])) _
    exact k
  obtain ⟨_, _, ⟨T108, L108, kk108, nn108⟩, -, X108, ⟨Lc108, hQ108, l108, y108, z108⟩, st108⟩ := Jvm.LawKit.callS X102 hx (y := (⟨"java/lang/Math", "min", "(II)I"⟩ : MethodName)) hown (mvT hZ (hw _ (List.mem_of_getElem? (i := 22) rfl))) (mvT hZ (hw _ (List.mem_of_getElem? (i := 23) rfl))) (mvT hZ (hw _ (List.mem_of_getElem? (i := 24) rfl))) (mvT hZ (hw _ (List.mem_of_getElem? (i := 25) rfl))) (by decide) (backOf (W := 4) (rm5 l Z a0 hw [] (3 : Int32) (0 : Int32) h102 n0 f104 ) hZ (hw _ (List.mem_of_getElem? (i := 25) rfl)) (hw _ (List.mem_of_getElem? (i := 24) rfl)) (by decide) (by decide)) (g := (mkF m 25 #[.val (.ref a1), .val (.int (0 : Int32)), .val (.ref b102)] [(.int (0 : Int32)), (.int (3 : Int32)), (.int (0 : Int32)), (.ref b102), (.int (0 : Int32)), (.ref a1)])) rfl (by rw [hml]; rfl) (argsL := [(.int (3 : Int32)), (.int (0 : Int32))]) (rest := [(.int (0 : Int32)), (.ref b102), (.int (0 : Int32)), (.ref a1)]) (lenOf pd_0 rfl) rfl (by show 2 * 0 + _ ≤ _; exact Nat.le_of_eq rfl) (hb hby d4_25) (fun _ _ => ⟨rfl, e102, (by decide : 1 + 0 ≤ _), (by decide : 0 + 0 ≤ _)⟩)
  dsimp only [Pt.U, Pt.locs, Pt.cells, Pt.slots] at X108 l108 y108 z108 st108 hQ108
  subst l108 y108 z108
  obtain ⟨rfl, Nq108, eq108⟩ := hQ108
  have N108 := Fr.app N0 Nq108
  refine EndsQ.go st108 ?_
  show EndsQ _ _ _ _ _ _ _ (T108.setTop (mkF m 28 #[.val (.ref a1), .val (.int (0 : Int32)), .val (.ref b102)] [(.int (own_minI (3 : Int32) (0 : Int32))), (.int (0 : Int32)), (.ref b102), (.int (0 : Int32)), (.ref a1)]))
  rw [(by decide : (own_minI (3 : Int32) (0 : Int32)) = (0 : Int32))]
  show EndsQ _ _ _ _ _ _ _ (T108.setTop (mkF m 28 #[.val (.ref a1), .val (.int (0 : Int32)), .val (.ref b102)] [(.int (0 : Int32)), (.int (0 : Int32)), (.ref b102), (.int (0 : Int32)), (.ref a1)]))
  obtain ⟨T109, h109, Lx109, X109, e109, N109, K109, V109, st109⟩ := cpA X108 hx hZ hown (hw _ (List.mem_of_getElem? (i := 26) rfl)) (hw _ (List.mem_of_getElem? (i := 29) rfl)) (hw _ (List.mem_of_getElem? (i := 27) rfl)) (hw _ (List.mem_of_getElem? (i := 28) rfl)) eq108 (sp := (0 : Int32)) (dp := (0 : Int32)) (nn := (0 : Int32)) f103 f106 (Or.inl ⟨rfl, rfl⟩) (by decide) (by decide) (by decide) (by decide) (by decide) rfl (by decide) N108 gn102 (g := (mkF m 28 #[.val (.ref a1), .val (.int (0 : Int32)), .val (.ref b102)] [(.int (0 : Int32)), (.int (0 : Int32)), (.ref b102), (.int (0 : Int32)), (.ref a1)])) rfl (by rw [hml]; rfl) rfl (hb hby d4_28) (by decide) (W := 0) (by show 2 * 0 + _ ≤ _; exact Nat.le_of_eq rfl) (by decide)
  have VV109 : Arv Z h109 b102 k102 .long (0 : Int32) [] (.long (0 : Int64)) := V109
  have f110 : Arv Z h109 a1 kA .long (3 : Int32) [(.long w0), (.long w1), (.long w2)] (.long (0 : Int64)) := f103.keep K109 (ninS ne102_a1 nin0)
  have f111 : n0 ≤ h109.size := Nat.le_trans f104 K109.1
  have f112 : Keep h0 h109 [] := f105.trans K109 (allS (Or.inr gh102) all0)
  refine EndsQ.go st109 ?_
  show EndsQ _ _ _ _ _ _ _ (T109.setTop (mkF m 31 #[.val (.ref a1), .val (.int (0 : Int32)), .val (.ref b102)] []))
  refine EndsQ.go (b := T109.setTop (mkF m 32 #[.val (.ref a1), .val (.int (0 : Int32)), .val (.ref b102)] [(.ref b102)])) (fun t k => ?_) ?_
  · show Steps p.tables e below (T109.setTop (mkF m 31 #[.val (.ref a1), .val (.int (0 : Int32)), .val (.ref b102)] [])) _
    refine XS.aloadN X109.here hx rfl (hb hby d4_31) rfl rfl ?_
    show Steps p.tables e below (T109.setTop (mkF m 32 #[.val (.ref a1), .val (.int (0 : Int32)), .val (.ref b102)] [(.ref b102)])) _
    exact k
  refine EndsQ.retA X109 hx Bd.notSynchronized (w := (.ref b102)) Bd.returns rfl rfl rfl (hb hby d4_32) (by decide) (by decide) ?_
  show QCp30 Z a1 kA w0 w1 w2 h0 n0 (some (.ref b102)) T109.heap _
  rw [e109]
  exact ⟨b102, k102, rfl, N109, f112, gn102, gh102, VV109⟩
theorem ef_Cp31 (m : MethodId) (x0 : Addr) (x1 : Int32) : entryFrame m #[(.ref x0), (.int x1)] 3 = mkF m 0 #[.val (.ref x0), .val (.int x1), .unset] [] := by first | (simp [entryFrame, mkF, argsToLocals, Value.category]; done) | rfl
def QCp31 (Z : State) (a1 : Addr) (kA : ClassId) (w0 : Int64) (w1 : Int64) (w2 : Int64) (h0 : Heap) (n0 : Nat) (v : Option Value) (h : Heap) (L : List Loc) : Prop := ∃ (b : Addr) (kB : ClassId), v = some (.ref b) ∧ Fr n0 L ∧ Keep h0 h [] ∧ n0 ≤ b ∧ h0.size ≤ b ∧ Arv Z h b kB .long (1 : Int32) [(.long w0)] (.long (0 : Int64))
set_option maxRecDepth 65536 in
set_option maxHeartbeats 40000000 in
theorem rmCp31 (l : Launch) (Z : State) (a0 : Array Value) (hw : ∀ d ∈ tables_1, d.before a0 Z = true) (ws : List Jvm.Cond) (a1 : Addr) (kA : ClassId) (w0 : Int64) (w1 : Int64) (w2 : Int64) (h0 : Heap) (n0 : Nat) (Z0 : n0 ≤ h0.size) (V1 : Arv Z h0 a1 kA .long (3 : Int32) [(.long w0), (.long w1), (.long w2)] (.long (0 : Int64))) :
    MetFree l (⟨"java/util/Arrays", "copyOf", "([JI)[J"⟩ : MethodName) (head1 (Jvm.Cond.code (⟨"java/util/Arrays", "copyOf", "([JI)[J"⟩ : MethodName) jdk_65_method_124_code 3 (some (.array .long)) :: ws) ({ frames := 1, cells := 1, slots := 2, locals := 40 } : Room)) (fun a U => a = #[(.ref a1), (.int (1 : Int32))] ∧ Z.Warmed39 U.vm ∧ U.heap = h0) (fun _ _ _ _ _ => True) (fun _ U o U' => ∃ v L, o = .returned v ∧ QCp31 Z a1 kA w0 w1 w2 h0 n0 v U'.heap L ∧ FrameEnd U o U' L ({ frames := 1, cells := 1, slots := 2, locals := 40 } : Room).cells ({ frames := 1, cells := 1, slots := 2, locals := 40 } : Room).slots) := by
  refine MetFree.of_bodySF (plainFor_of_name pn_4) hisR ?_
  intro p e s m args below meth c s₁ Bd hml0 hP hK
  obtain ⟨rfl, hZ, hh⟩ := hP
  have hx := Bd.exec
  have hby := Bd.bytes
  have hml : c.maxLocals = 3 := hml0
  have hown : s.vm.findClass "java/util/Arrays" = some m.cls := findClass_of_methodNamed Bd.named
  have hnm := (name_of_methodNamed Bd.named Bd.method).1
  have X0 : Stand p l e ({ frames := 1, cells := 1, slots := 2, locals := 40 } : Room) s m #[(.ref a1), (.int (1 : Int32))] below meth c s₁ [] 0 0 := Stand.of_body Bd
  have e0 : s₁.heap = h0 := by rw [← hh, Bd.state]; rfl
  have N0 := Fr.nil n0
  show EndsQ p.tables e below s (fun v h L => QCp31 Z a1 kA w0 w1 w2 h0 n0 v h L) ({ frames := 1, cells := 1, slots := 2, locals := 40 } : Room).cells ({ frames := 1, cells := 1, slots := 2, locals := 40 } : Room).slots _
  refine EndsQ.go (b := s₁.setTop (mkF m 0 #[.val (.ref a1), .val (.int (1 : Int32)), .unset] [])) (fun t k => castTop (ef_Cp31 m a1 (1 : Int32)) k) ?_
  have K0 : Keep h0 h0 [] := Keep.refl _ _
  refine EndsQ.go (b := s₁.setTop (mkF m 2 #[.val (.ref a1), .val (.int (1 : Int32)), .unset] [(.ref a1), (.int (1 : Int32))])) (fun t k => ?_) ?_
  · show Steps p.tables e below (s₁.setTop (mkF m 0 #[.val (.ref a1), .val (.int (1 : Int32)), .unset] [])) _
    refine XS.iloadN X0.here hx rfl (hb hby d4_0) rfl ?_
    show Steps p.tables e below (s₁.setTop (mkF m 1 #[.val (.ref a1), .val (.int (1 : Int32)), .unset] [(.int (1 : Int32))])) _
    refine XS.aloadN X0.here hx rfl (hb hby d4_1) rfl rfl ?_
    show Steps p.tables e below (s₁.setTop (mkF m 2 #[.val (.ref a1), .val (.int (1 : Int32)), .unset] [(.ref a1), (.int (1 : Int32))])) _
    exact k
  obtain ⟨cl101, Ar101, -, S101, M101, -, -⟩ := id V1
  refine EndsQ.go (fun t k => X0.arraylength hx (by rw [e0]; exact Ar101.1) (State.isArrayOf_alike hZ.alike Ar101.2.1) (g := (mkF m 2 #[.val (.ref a1), .val (.int (1 : Int32)), .unset] [(.ref a1), (.int (1 : Int32))])) rfl rfl (hb hby d4_2) _ k) ?_
  rw [len_of S101 M101]
  show EndsQ _ _ _ _ _ _ _ (s₁.setTop (mkF m 3 #[.val (.ref a1), .val (.int (1 : Int32)), .unset] [(.int (3 : Int32)), (.int (1 : Int32))]))
  refine EndsQ.go (b := s₁.setTop (mkF m 15 #[.val (.ref a1), .val (.int (1 : Int32)), .unset] [(.int (1 : Int32))])) (fun t k => ?_) ?_
  · show Steps p.tables e below (s₁.setTop (mkF m 3 #[.val (.ref a1), .val (.int (1 : Int32)), .unset] [(.int (3 : Int32)), (.int (1 : Int32))])) _
    refine XS.icmpYes X0.here hx rfl (pc0 := 3) (pc' := 14) rfl (hb hby d4_3) rfl (feq (by decide)).2 (by decide) (by decide) ?_
    show Steps p.tables e below (s₁.setTop (mkF m 14 #[.val (.ref a1), .val (.int (1 : Int32)), .unset] [])) _
    refine XS.iloadN X0.here hx rfl (hb hby d4_14) rfl ?_
    show Steps p.tables e below (s₁.setTop (mkF m 15 #[.val (.ref a1), .val (.int (1 : Int32)), .unset] [(.int (1 : Int32))])) _
    exact k
  obtain ⟨T102, h102, k102, X102, e102, E102, A102, st102⟩ := newP X0 hx hZ (hw _ (List.mem_of_getElem? (i := 0) rfl)) e0 (g := (mkF m 15 #[.val (.ref a1), .val (.int (1 : Int32)), .unset] [(.int (1 : Int32))])) rfl (hb hby d4_15) rfl (by decide) (cap := 1) (by decide) (by decide) (by decide) (by decide)
  obtain ⟨b102, g102⟩ : ∃ z, z = h0.size := ⟨_, rfl⟩
  rw [← g102] at A102 st102
  have gn102 : n0 ≤ b102 := Nat.le_trans Z0 (Nat.le_of_eq g102.symm)
  have gh102 : h0.size ≤ b102 := Nat.le_trans K0.1 (Nat.le_of_eq g102.symm)
  have ne102_a1 : a1 ≠ b102 := Nat.ne_of_lt (Nat.lt_of_lt_of_le V1.lt (Nat.le_of_eq g102.symm))
  have f103 : Arv Z h102 a1 kA .long (3 : Int32) [(.long w0), (.long w1), (.long w2)] (.long (0 : Int64)) := V1.ext E102
  have f104 : n0 ≤ h102.size := Nat.le_trans Z0 E102.1
  have f105 : Keep h0 h102 [] := K0.ext E102
  have f106 : Arv Z h102 b102 k102 .long (1 : Int32) [(.long (0 : Int64))] (.long (0 : Int64)) := (Arv.new A102 (by decide)).pad (pad_rep [] (.long (0 : Int64)) 1)
  refine EndsQ.go st102 ?_
  show EndsQ _ _ _ _ _ _ _ (T102.setTop (mkF m 17 #[.val (.ref a1), .val (.int (1 : Int32)), .unset] [(.ref b102)]))
  refine EndsQ.go (b := T102.setTop (mkF m 23 #[.val (.ref a1), .val (.int (1 : Int32)), .val (.ref b102)] [(.ref a1), (.int (0 : Int32)), (.ref b102), (.int (0 : Int32)), (.ref a1)])) (fun t k => ?_) ?_
  · show Steps p.tables e below (T102.setTop (mkF m 17 #[.val (.ref a1), .val (.int (1 : Int32)), .unset] [(.ref b102)])) _
    refine XS.astoreN X102.here hx rfl (hb hby d4_17) rfl rfl (l' := #[.val (.ref a1), .val (.int (1 : Int32)), .val (.ref b102)]) rfl ?_
    show Steps p.tables e below (T102.setTop (mkF m 18 #[.val (.ref a1), .val (.int (1 : Int32)), .val (.ref b102)] [])) _
    refine XS.aloadN X102.here hx rfl (hb hby d4_18) rfl rfl ?_
    show Steps p.tables e below (T102.setTop (mkF m 19 #[.val (.ref a1), .val (.int (1 : Int32)), .val (.ref b102)] [(.ref a1)])) _
    refine XS.iconst X102.here hx rfl (hb hby d4_19) ?_
    show Steps p.tables e below (T102.setTop (mkF m 20 #[.val (.ref a1), .val (.int (1 : Int32)), .val (.ref b102)] [(.int (0 : Int32)), (.ref a1)])) _
    refine XS.aloadN X102.here hx rfl (hb hby d4_20) rfl rfl ?_
    show Steps p.tables e below (T102.setTop (mkF m 21 #[.val (.ref a1), .val (.int (1 : Int32)), .val (.ref b102)] [(.ref b102), (.int (0 : Int32)), (.ref a1)])) _
    refine XS.iconst X102.here hx rfl (hb hby d4_21) ?_
    show Steps p.tables e below (T102.setTop (mkF m 22 #[.val (.ref a1), .val (.int (1 : Int32)), .val (.ref b102)] [(.int (0 : Int32)), (.ref b102), (.int (0 : Int32)), (.ref a1)])) _
    refine XS.aloadN X102.here hx rfl (hb hby d4_22) rfl rfl ?_
    show Steps p.tables e below (T102.setTop (mkF m 23 #[.val (.ref a1), .val (.int (1 : Int32)), .val (.ref b102)] [(.ref a1), (.int (0 : Int32)), (.ref b102), (.int (0 : Int32)), (.ref a1)])) _
    exact k
  obtain ⟨cl107, Ar107, -, S107, M107, -, -⟩ := id f103
  refine EndsQ.go (fun t k => X102.arraylength hx (by rw [e102]; exact Ar107.1) (State.isArrayOf_alike hZ.alike Ar107.2.1) (g := (mkF m 23 #[.val (.ref a1), .val (.int (1 : Int32)), .val (.ref b102)] [(.ref a1), (.int (0 : Int32)), (.ref b102), (.int (0 : Int32)), (.ref a1)])) rfl rfl (hb hby d4_23) _ k) ?_
  rw [len_of S107 M107]
  show EndsQ _ _ _ _ _ _ _ (T102.setTop (mkF m 24 #[.val (.ref a1), .val (.int (1 : Int32)), .val (.ref b102)] [(.int (3 : Int32)), (.int (0 : Int32)), (.ref b102), (.int (0 : Int32)), (.ref a1)]))
  refine EndsQ.go (b := T102.setTop (mkF m 25 #[.val (.ref a1), .val (.int (1 : Int32)), .val (.ref b102)] [(.int (1 : Int32)), (.int (3 : Int32)), (.int (0 : Int32)), (.ref b102), (.int (0 : Int32)), (.ref a1)])) (fun t k => ?_) ?_
  · show Steps p.tables e below (T102.setTop (mkF m 24 #[.val (.ref a1), .val (.int (1 : Int32)), .val (.ref b102)] [(.int (3 : Int32)), (.int (0 : Int32)), (.ref b102), (.int (0 : Int32)), (.ref a1)])) _
    refine XS.iloadN X102.here hx rfl (hb hby d4_24) rfl ?_
    show Steps p.tables e below (T102.setTop (mkF m 25 #[.val (.ref a1), .val (.int (1 : Int32)), .val (.ref b102)] [(.int (1 : Int32)), (.int (3 : Int32)), (.int (0 : Int32)), (.ref b102), (.int (0 : Int32)), (.ref a1)])) _
    exact k
  obtain ⟨_, _, ⟨T108, L108, kk108, nn108⟩, -, X108, ⟨Lc108, hQ108, l108, y108, z108⟩, st108⟩ := Jvm.LawKit.callS X102 hx (y := (⟨"java/lang/Math", "min", "(II)I"⟩ : MethodName)) hown (mvT hZ (hw _ (List.mem_of_getElem? (i := 22) rfl))) (mvT hZ (hw _ (List.mem_of_getElem? (i := 23) rfl))) (mvT hZ (hw _ (List.mem_of_getElem? (i := 24) rfl))) (mvT hZ (hw _ (List.mem_of_getElem? (i := 25) rfl))) (by decide) (backOf (W := 4) (rm5 l Z a0 hw [] (3 : Int32) (1 : Int32) h102 n0 f104 ) hZ (hw _ (List.mem_of_getElem? (i := 25) rfl)) (hw _ (List.mem_of_getElem? (i := 24) rfl)) (by decide) (by decide)) (g := (mkF m 25 #[.val (.ref a1), .val (.int (1 : Int32)), .val (.ref b102)] [(.int (1 : Int32)), (.int (3 : Int32)), (.int (0 : Int32)), (.ref b102), (.int (0 : Int32)), (.ref a1)])) rfl (by rw [hml]; rfl) (argsL := [(.int (3 : Int32)), (.int (1 : Int32))]) (rest := [(.int (0 : Int32)), (.ref b102), (.int (0 : Int32)), (.ref a1)]) (lenOf pd_0 rfl) rfl (by show 2 * 0 + _ ≤ _; exact Nat.le_of_eq rfl) (hb hby d4_25) (fun _ _ => ⟨rfl, e102, (by decide : 1 + 0 ≤ _), (by decide : 1 + 0 ≤ _)⟩)
  dsimp only [Pt.U, Pt.locs, Pt.cells, Pt.slots] at X108 l108 y108 z108 st108 hQ108
  subst l108 y108 z108
  obtain ⟨rfl, Nq108, eq108⟩ := hQ108
  have N108 := Fr.app N0 Nq108
  refine EndsQ.go st108 ?_
  show EndsQ _ _ _ _ _ _ _ (T108.setTop (mkF m 28 #[.val (.ref a1), .val (.int (1 : Int32)), .val (.ref b102)] [(.int (own_minI (3 : Int32) (1 : Int32))), (.int (0 : Int32)), (.ref b102), (.int (0 : Int32)), (.ref a1)]))
  rw [(by decide : (own_minI (3 : Int32) (1 : Int32)) = (1 : Int32))]
  show EndsQ _ _ _ _ _ _ _ (T108.setTop (mkF m 28 #[.val (.ref a1), .val (.int (1 : Int32)), .val (.ref b102)] [(.int (1 : Int32)), (.int (0 : Int32)), (.ref b102), (.int (0 : Int32)), (.ref a1)]))
  obtain ⟨T109, h109, Lx109, X109, e109, N109, K109, V109, st109⟩ := cpA X108 hx hZ hown (hw _ (List.mem_of_getElem? (i := 26) rfl)) (hw _ (List.mem_of_getElem? (i := 29) rfl)) (hw _ (List.mem_of_getElem? (i := 27) rfl)) (hw _ (List.mem_of_getElem? (i := 28) rfl)) eq108 (sp := (0 : Int32)) (dp := (0 : Int32)) (nn := (1 : Int32)) f103 f106 (Or.inl ⟨rfl, rfl⟩) (by decide) (by decide) (by decide) (by decide) (by decide) rfl (by decide) N108 gn102 (g := (mkF m 28 #[.val (.ref a1), .val (.int (1 : Int32)), .val (.ref b102)] [(.int (1 : Int32)), (.int (0 : Int32)), (.ref b102), (.int (0 : Int32)), (.ref a1)])) rfl (by rw [hml]; rfl) rfl (hb hby d4_28) (by decide) (W := 0) (by show 2 * 0 + _ ≤ _; exact Nat.le_of_eq rfl) (by decide)
  have VV109 : Arv Z h109 b102 k102 .long (1 : Int32) [(.long w0)] (.long (0 : Int64)) := V109
  have f110 : Arv Z h109 a1 kA .long (3 : Int32) [(.long w0), (.long w1), (.long w2)] (.long (0 : Int64)) := f103.keep K109 (ninS ne102_a1 nin0)
  have f111 : n0 ≤ h109.size := Nat.le_trans f104 K109.1
  have f112 : Keep h0 h109 [] := f105.trans K109 (allS (Or.inr gh102) all0)
  refine EndsQ.go st109 ?_
  show EndsQ _ _ _ _ _ _ _ (T109.setTop (mkF m 31 #[.val (.ref a1), .val (.int (1 : Int32)), .val (.ref b102)] []))
  refine EndsQ.go (b := T109.setTop (mkF m 32 #[.val (.ref a1), .val (.int (1 : Int32)), .val (.ref b102)] [(.ref b102)])) (fun t k => ?_) ?_
  · show Steps p.tables e below (T109.setTop (mkF m 31 #[.val (.ref a1), .val (.int (1 : Int32)), .val (.ref b102)] [])) _
    refine XS.aloadN X109.here hx rfl (hb hby d4_31) rfl rfl ?_
    show Steps p.tables e below (T109.setTop (mkF m 32 #[.val (.ref a1), .val (.int (1 : Int32)), .val (.ref b102)] [(.ref b102)])) _
    exact k
  refine EndsQ.retA X109 hx Bd.notSynchronized (w := (.ref b102)) Bd.returns rfl rfl rfl (hb hby d4_32) (by decide) (by decide) ?_
  show QCp31 Z a1 kA w0 w1 w2 h0 n0 (some (.ref b102)) T109.heap _
  rw [e109]
  exact ⟨b102, k102, rfl, N109, f112, gn102, gh102, VV109⟩
theorem ef_Cp32 (m : MethodId) (x0 : Addr) (x1 : Int32) : entryFrame m #[(.ref x0), (.int x1)] 3 = mkF m 0 #[.val (.ref x0), .val (.int x1), .unset] [] := by first | (simp [entryFrame, mkF, argsToLocals, Value.category]; done) | rfl
def QCp32 (Z : State) (a1 : Addr) (kA : ClassId) (w0 : Int64) (w1 : Int64) (w2 : Int64) (h0 : Heap) (n0 : Nat) (v : Option Value) (h : Heap) (L : List Loc) : Prop := ∃ (b : Addr) (kB : ClassId), v = some (.ref b) ∧ Fr n0 L ∧ Keep h0 h [] ∧ n0 ≤ b ∧ h0.size ≤ b ∧ Arv Z h b kB .long (2 : Int32) [(.long w0), (.long w1)] (.long (0 : Int64))
set_option maxRecDepth 65536 in
set_option maxHeartbeats 40000000 in
theorem rmCp32 (l : Launch) (Z : State) (a0 : Array Value) (hw : ∀ d ∈ tables_1, d.before a0 Z = true) (ws : List Jvm.Cond) (a1 : Addr) (kA : ClassId) (w0 : Int64) (w1 : Int64) (w2 : Int64) (h0 : Heap) (n0 : Nat) (Z0 : n0 ≤ h0.size) (V1 : Arv Z h0 a1 kA .long (3 : Int32) [(.long w0), (.long w1), (.long w2)] (.long (0 : Int64))) :
    MetFree l (⟨"java/util/Arrays", "copyOf", "([JI)[J"⟩ : MethodName) (head1 (Jvm.Cond.code (⟨"java/util/Arrays", "copyOf", "([JI)[J"⟩ : MethodName) jdk_65_method_124_code 3 (some (.array .long)) :: ws) ({ frames := 1, cells := 1, slots := 2, locals := 40 } : Room)) (fun a U => a = #[(.ref a1), (.int (2 : Int32))] ∧ Z.Warmed39 U.vm ∧ U.heap = h0) (fun _ _ _ _ _ => True) (fun _ U o U' => ∃ v L, o = .returned v ∧ QCp32 Z a1 kA w0 w1 w2 h0 n0 v U'.heap L ∧ FrameEnd U o U' L ({ frames := 1, cells := 1, slots := 2, locals := 40 } : Room).cells ({ frames := 1, cells := 1, slots := 2, locals := 40 } : Room).slots) := by
  refine MetFree.of_bodySF (plainFor_of_name pn_4) hisR ?_
  intro p e s m args below meth c s₁ Bd hml0 hP hK
  obtain ⟨rfl, hZ, hh⟩ := hP
  have hx := Bd.exec
  have hby := Bd.bytes
  have hml : c.maxLocals = 3 := hml0
  have hown : s.vm.findClass "java/util/Arrays" = some m.cls := findClass_of_methodNamed Bd.named
  have hnm := (name_of_methodNamed Bd.named Bd.method).1
  have X0 : Stand p l e ({ frames := 1, cells := 1, slots := 2, locals := 40 } : Room) s m #[(.ref a1), (.int (2 : Int32))] below meth c s₁ [] 0 0 := Stand.of_body Bd
  have e0 : s₁.heap = h0 := by rw [← hh, Bd.state]; rfl
  have N0 := Fr.nil n0
  show EndsQ p.tables e below s (fun v h L => QCp32 Z a1 kA w0 w1 w2 h0 n0 v h L) ({ frames := 1, cells := 1, slots := 2, locals := 40 } : Room).cells ({ frames := 1, cells := 1, slots := 2, locals := 40 } : Room).slots _
  refine EndsQ.go (b := s₁.setTop (mkF m 0 #[.val (.ref a1), .val (.int (2 : Int32)), .unset] [])) (fun t k => castTop (ef_Cp32 m a1 (2 : Int32)) k) ?_
  have K0 : Keep h0 h0 [] := Keep.refl _ _
  refine EndsQ.go (b := s₁.setTop (mkF m 2 #[.val (.ref a1), .val (.int (2 : Int32)), .unset] [(.ref a1), (.int (2 : Int32))])) (fun t k => ?_) ?_
  · show Steps p.tables e below (s₁.setTop (mkF m 0 #[.val (.ref a1), .val (.int (2 : Int32)), .unset] [])) _
    refine XS.iloadN X0.here hx rfl (hb hby d4_0) rfl ?_
    show Steps p.tables e below (s₁.setTop (mkF m 1 #[.val (.ref a1), .val (.int (2 : Int32)), .unset] [(.int (2 : Int32))])) _
    refine XS.aloadN X0.here hx rfl (hb hby d4_1) rfl rfl ?_
    show Steps p.tables e below (s₁.setTop (mkF m 2 #[.val (.ref a1), .val (.int (2 : Int32)), .unset] [(.ref a1), (.int (2 : Int32))])) _
    exact k
  obtain ⟨cl101, Ar101, -, S101, M101, -, -⟩ := id V1
  refine EndsQ.go (fun t k => X0.arraylength hx (by rw [e0]; exact Ar101.1) (State.isArrayOf_alike hZ.alike Ar101.2.1) (g := (mkF m 2 #[.val (.ref a1), .val (.int (2 : Int32)), .unset] [(.ref a1), (.int (2 : Int32))])) rfl rfl (hb hby d4_2) _ k) ?_
  rw [len_of S101 M101]
  show EndsQ _ _ _ _ _ _ _ (s₁.setTop (mkF m 3 #[.val (.ref a1), .val (.int (2 : Int32)), .unset] [(.int (3 : Int32)), (.int (2 : Int32))]))
  refine EndsQ.go (b := s₁.setTop (mkF m 15 #[.val (.ref a1), .val (.int (2 : Int32)), .unset] [(.int (2 : Int32))])) (fun t k => ?_) ?_
  · show Steps p.tables e below (s₁.setTop (mkF m 3 #[.val (.ref a1), .val (.int (2 : Int32)), .unset] [(.int (3 : Int32)), (.int (2 : Int32))])) _
    refine XS.icmpYes X0.here hx rfl (pc0 := 3) (pc' := 14) rfl (hb hby d4_3) rfl (feq (by decide)).2 (by decide) (by decide) ?_
    show Steps p.tables e below (s₁.setTop (mkF m 14 #[.val (.ref a1), .val (.int (2 : Int32)), .unset] [])) _
    refine XS.iloadN X0.here hx rfl (hb hby d4_14) rfl ?_
    show Steps p.tables e below (s₁.setTop (mkF m 15 #[.val (.ref a1), .val (.int (2 : Int32)), .unset] [(.int (2 : Int32))])) _
    exact k
  obtain ⟨T102, h102, k102, X102, e102, E102, A102, st102⟩ := newP X0 hx hZ (hw _ (List.mem_of_getElem? (i := 0) rfl)) e0 (g := (mkF m 15 #[.val (.ref a1), .val (.int (2 : Int32)), .unset] [(.int (2 : Int32))])) rfl (hb hby d4_15) rfl (by decide) (cap := 2) (by decide) (by decide) (by decide) (by decide)
  obtain ⟨b102, g102⟩ : ∃ z, z = h0.size := ⟨_, rfl⟩
  rw [← g102] at A102 st102
  have gn102 : n0 ≤ b102 := Nat.le_trans Z0 (Nat.le_of_eq g102.symm)
  have gh102 : h0.size ≤ b102 := Nat.le_trans K0.1 (Nat.le_of_eq g102.symm)
  have ne102_a1 : a1 ≠ b102 := Nat.ne_of_lt (Nat.lt_of_lt_of_le V1.lt (Nat.le_of_eq g102.symm))
  have f103 : Arv Z h102 a1 kA .long (3 : Int32) [(.long w0), (.long w1), (.long w2)] (.long (0 : Int64)) := V1.ext E102
  have f104 : n0 ≤ h102.size := Nat.le_trans Z0 E102.1
  have f105 : Keep h0 h102 [] := K0.ext E102
  have f106 : Arv Z h102 b102 k102 .long (2 : Int32) [(.long (0 : Int64)), (.long (0 : Int64))] (.long (0 : Int64)) := (Arv.new A102 (by decide)).pad (pad_rep [] (.long (0 : Int64)) 2)
  refine EndsQ.go st102 ?_
  show EndsQ _ _ _ _ _ _ _ (T102.setTop (mkF m 17 #[.val (.ref a1), .val (.int (2 : Int32)), .unset] [(.ref b102)]))
  refine EndsQ.go (b := T102.setTop (mkF m 23 #[.val (.ref a1), .val (.int (2 : Int32)), .val (.ref b102)] [(.ref a1), (.int (0 : Int32)), (.ref b102), (.int (0 : Int32)), (.ref a1)])) (fun t k => ?_) ?_
  · show Steps p.tables e below (T102.setTop (mkF m 17 #[.val (.ref a1), .val (.int (2 : Int32)), .unset] [(.ref b102)])) _
    refine XS.astoreN X102.here hx rfl (hb hby d4_17) rfl rfl (l' := #[.val (.ref a1), .val (.int (2 : Int32)), .val (.ref b102)]) rfl ?_
    show Steps p.tables e below (T102.setTop (mkF m 18 #[.val (.ref a1), .val (.int (2 : Int32)), .val (.ref b102)] [])) _
    refine XS.aloadN X102.here hx rfl (hb hby d4_18) rfl rfl ?_
    show Steps p.tables e below (T102.setTop (mkF m 19 #[.val (.ref a1), .val (.int (2 : Int32)), .val (.ref b102)] [(.ref a1)])) _
    refine XS.iconst X102.here hx rfl (hb hby d4_19) ?_
    show Steps p.tables e below (T102.setTop (mkF m 20 #[.val (.ref a1), .val (.int (2 : Int32)), .val (.ref b102)] [(.int (0 : Int32)), (.ref a1)])) _
    refine XS.aloadN X102.here hx rfl (hb hby d4_20) rfl rfl ?_
    show Steps p.tables e below (T102.setTop (mkF m 21 #[.val (.ref a1), .val (.int (2 : Int32)), .val (.ref b102)] [(.ref b102), (.int (0 : Int32)), (.ref a1)])) _
    refine XS.iconst X102.here hx rfl (hb hby d4_21) ?_
    show Steps p.tables e below (T102.setTop (mkF m 22 #[.val (.ref a1), .val (.int (2 : Int32)), .val (.ref b102)] [(.int (0 : Int32)), (.ref b102), (.int (0 : Int32)), (.ref a1)])) _
    refine XS.aloadN X102.here hx rfl (hb hby d4_22) rfl rfl ?_
    show Steps p.tables e below (T102.setTop (mkF m 23 #[.val (.ref a1), .val (.int (2 : Int32)), .val (.ref b102)] [(.ref a1), (.int (0 : Int32)), (.ref b102), (.int (0 : Int32)), (.ref a1)])) _
    exact k
  obtain ⟨cl107, Ar107, -, S107, M107, -, -⟩ := id f103
  refine EndsQ.go (fun t k => X102.arraylength hx (by rw [e102]; exact Ar107.1) (State.isArrayOf_alike hZ.alike Ar107.2.1) (g := (mkF m 23 #[.val (.ref a1), .val (.int (2 : Int32)), .val (.ref b102)] [(.ref a1), (.int (0 : Int32)), (.ref b102), (.int (0 : Int32)), (.ref a1)])) rfl rfl (hb hby d4_23) _ k) ?_
  rw [len_of S107 M107]
  show EndsQ _ _ _ _ _ _ _ (T102.setTop (mkF m 24 #[.val (.ref a1), .val (.int (2 : Int32)), .val (.ref b102)] [(.int (3 : Int32)), (.int (0 : Int32)), (.ref b102), (.int (0 : Int32)), (.ref a1)]))
  refine EndsQ.go (b := T102.setTop (mkF m 25 #[.val (.ref a1), .val (.int (2 : Int32)), .val (.ref b102)] [(.int (2 : Int32)), (.int (3 : Int32)), (.int (0 : Int32)), (.ref b102), (.int (0 : Int32)), (.ref a1)])) (fun t k => ?_) ?_
  · show Steps p.tables e below (T102.setTop (mkF m 24 #[.val (.ref a1), .val (.int (2 : Int32)), .val (.ref b102)] [(.int (3 : Int32)), (.int (0 : Int32)), (.ref b102), (.int (0 : Int32)), (.ref a1)])) _
    refine XS.iloadN X102.here hx rfl (hb hby d4_24) rfl ?_
    show Steps p.tables e below (T102.setTop (mkF m 25 #[.val (.ref a1), .val (.int (2 : Int32)), .val (.ref b102)] [(.int (2 : Int32)), (.int (3 : Int32)), (.int (0 : Int32)), (.ref b102), (.int (0 : Int32)), (.ref a1)])) _
    exact k
  obtain ⟨_, _, ⟨T108, L108, kk108, nn108⟩, -, X108, ⟨Lc108, hQ108, l108, y108, z108⟩, st108⟩ := Jvm.LawKit.callS X102 hx (y := (⟨"java/lang/Math", "min", "(II)I"⟩ : MethodName)) hown (mvT hZ (hw _ (List.mem_of_getElem? (i := 22) rfl))) (mvT hZ (hw _ (List.mem_of_getElem? (i := 23) rfl))) (mvT hZ (hw _ (List.mem_of_getElem? (i := 24) rfl))) (mvT hZ (hw _ (List.mem_of_getElem? (i := 25) rfl))) (by decide) (backOf (W := 4) (rm5 l Z a0 hw [] (3 : Int32) (2 : Int32) h102 n0 f104 ) hZ (hw _ (List.mem_of_getElem? (i := 25) rfl)) (hw _ (List.mem_of_getElem? (i := 24) rfl)) (by decide) (by decide)) (g := (mkF m 25 #[.val (.ref a1), .val (.int (2 : Int32)), .val (.ref b102)] [(.int (2 : Int32)), (.int (3 : Int32)), (.int (0 : Int32)), (.ref b102), (.int (0 : Int32)), (.ref a1)])) rfl (by rw [hml]; rfl) (argsL := [(.int (3 : Int32)), (.int (2 : Int32))]) (rest := [(.int (0 : Int32)), (.ref b102), (.int (0 : Int32)), (.ref a1)]) (lenOf pd_0 rfl) rfl (by show 2 * 0 + _ ≤ _; exact Nat.le_of_eq rfl) (hb hby d4_25) (fun _ _ => ⟨rfl, e102, (by decide : 1 + 0 ≤ _), (by decide : 2 + 0 ≤ _)⟩)
  dsimp only [Pt.U, Pt.locs, Pt.cells, Pt.slots] at X108 l108 y108 z108 st108 hQ108
  subst l108 y108 z108
  obtain ⟨rfl, Nq108, eq108⟩ := hQ108
  have N108 := Fr.app N0 Nq108
  refine EndsQ.go st108 ?_
  show EndsQ _ _ _ _ _ _ _ (T108.setTop (mkF m 28 #[.val (.ref a1), .val (.int (2 : Int32)), .val (.ref b102)] [(.int (own_minI (3 : Int32) (2 : Int32))), (.int (0 : Int32)), (.ref b102), (.int (0 : Int32)), (.ref a1)]))
  rw [(by decide : (own_minI (3 : Int32) (2 : Int32)) = (2 : Int32))]
  show EndsQ _ _ _ _ _ _ _ (T108.setTop (mkF m 28 #[.val (.ref a1), .val (.int (2 : Int32)), .val (.ref b102)] [(.int (2 : Int32)), (.int (0 : Int32)), (.ref b102), (.int (0 : Int32)), (.ref a1)]))
  obtain ⟨T109, h109, Lx109, X109, e109, N109, K109, V109, st109⟩ := cpA X108 hx hZ hown (hw _ (List.mem_of_getElem? (i := 26) rfl)) (hw _ (List.mem_of_getElem? (i := 29) rfl)) (hw _ (List.mem_of_getElem? (i := 27) rfl)) (hw _ (List.mem_of_getElem? (i := 28) rfl)) eq108 (sp := (0 : Int32)) (dp := (0 : Int32)) (nn := (2 : Int32)) f103 f106 (Or.inl ⟨rfl, rfl⟩) (by decide) (by decide) (by decide) (by decide) (by decide) rfl (by decide) N108 gn102 (g := (mkF m 28 #[.val (.ref a1), .val (.int (2 : Int32)), .val (.ref b102)] [(.int (2 : Int32)), (.int (0 : Int32)), (.ref b102), (.int (0 : Int32)), (.ref a1)])) rfl (by rw [hml]; rfl) rfl (hb hby d4_28) (by decide) (W := 0) (by show 2 * 0 + _ ≤ _; exact Nat.le_of_eq rfl) (by decide)
  have VV109 : Arv Z h109 b102 k102 .long (2 : Int32) [(.long w0), (.long w1)] (.long (0 : Int64)) := V109
  have f110 : Arv Z h109 a1 kA .long (3 : Int32) [(.long w0), (.long w1), (.long w2)] (.long (0 : Int64)) := f103.keep K109 (ninS ne102_a1 nin0)
  have f111 : n0 ≤ h109.size := Nat.le_trans f104 K109.1
  have f112 : Keep h0 h109 [] := f105.trans K109 (allS (Or.inr gh102) all0)
  refine EndsQ.go st109 ?_
  show EndsQ _ _ _ _ _ _ _ (T109.setTop (mkF m 31 #[.val (.ref a1), .val (.int (2 : Int32)), .val (.ref b102)] []))
  refine EndsQ.go (b := T109.setTop (mkF m 32 #[.val (.ref a1), .val (.int (2 : Int32)), .val (.ref b102)] [(.ref b102)])) (fun t k => ?_) ?_
  · show Steps p.tables e below (T109.setTop (mkF m 31 #[.val (.ref a1), .val (.int (2 : Int32)), .val (.ref b102)] [])) _
    refine XS.aloadN X109.here hx rfl (hb hby d4_31) rfl rfl ?_
    show Steps p.tables e below (T109.setTop (mkF m 32 #[.val (.ref a1), .val (.int (2 : Int32)), .val (.ref b102)] [(.ref b102)])) _
    exact k
  refine EndsQ.retA X109 hx Bd.notSynchronized (w := (.ref b102)) Bd.returns rfl rfl rfl (hb hby d4_32) (by decide) (by decide) ?_
  show QCp32 Z a1 kA w0 w1 w2 h0 n0 (some (.ref b102)) T109.heap _
  rw [e109]
  exact ⟨b102, k102, rfl, N109, f112, gn102, gh102, VV109⟩
theorem ef_I0 (m : MethodId) (x0 : Addr) (x1 : Addr) : entryFrame m #[(.ref x0), (.ref x1)] 3 = mkF m 0 #[.val (.ref x0), .val (.ref x1), .unset] [] := by first | (simp [entryFrame, mkF, argsToLocals, Value.category]; done) | rfl
def QI0 (Z : State) (a1 : Addr) (a2 : Addr) (kA : ClassId) (h0 : Heap) (n0 : Nat) (v : Option Value) (h : Heap) (L : List Loc) : Prop := ∃ (b : Addr) (kB : ClassId) (m : Int32) (vs : List Value), v = none ∧ Fr n0 L ∧ Keep h0 h [a1] ∧ Exa Z h a1 "com/example/sextant/sextant/ValueSet" ∧ Fld Z h a1 "com/example/sextant/sextant/ValueSet" "words" "[J" (.ref b) ∧ Arv Z h b kB .long m vs (.long (0 : Int64)) ∧ ((m = (0 : Int32) ∧ vs = []))
set_option maxRecDepth 65536 in
set_option maxHeartbeats 40000000 in
theorem rmI0 (l : Launch) (Z : State) (a0 : Array Value) (hw : ∀ d ∈ tables_1, d.before a0 Z = true) (ws : List Jvm.Cond) (a1 : Addr) (a2 : Addr) (kA : ClassId) (h0 : Heap) (n0 : Nat) (Z0 : n0 ≤ h0.size) (F_words : Fld Z h0 a1 "com/example/sextant/sextant/ValueSet" "words" "[J" .null) (E1 : Exa Z h0 a1 "com/example/sextant/sextant/ValueSet") (g1 : n0 ≤ a1) (V2 : Arv Z h0 a2 kA .long (0 : Int32) [] (.long (0 : Int64))) (hne : a1 ≠ a2) :
    MetFree l (⟨"com/example/sextant/sextant/ValueSet", "<init>", "([J)V"⟩ : MethodName) (head1 (Jvm.Cond.code (⟨"com/example/sextant/sextant/ValueSet", "<init>", "([J)V"⟩ : MethodName) prog_21_method_1_code 3 none :: ws) ({ frames := 2, cells := 1, slots := 2, locals := 60 } : Room)) (fun a U => a = #[(.ref a1), (.ref a2)] ∧ Z.Warmed39 U.vm ∧ U.heap = h0) (fun _ _ _ _ _ => True) (fun _ U o U' => ∃ v L, o = .returned v ∧ QI0 Z a1 a2 kA h0 n0 v U'.heap L ∧ FrameEnd U o U' L ({ frames := 2, cells := 1, slots := 2, locals := 60 } : Room).cells ({ frames := 2, cells := 1, slots := 2, locals := 60 } : Room).slots) := by
  refine MetFree.of_bodySF (plainFor_of_name pn_1) hisR ?_
  intro p e s m args below meth c s₁ Bd hml0 hP hK
  obtain ⟨rfl, hZ, hh⟩ := hP
  have hx := Bd.exec
  have hby := Bd.bytes
  have hml : c.maxLocals = 3 := hml0
  have hown : s.vm.findClass "com/example/sextant/sextant/ValueSet" = some m.cls := findClass_of_methodNamed Bd.named
  have hnm := (name_of_methodNamed Bd.named Bd.method).1
  have X0 : Stand p l e ({ frames := 2, cells := 1, slots := 2, locals := 60 } : Room) s m #[(.ref a1), (.ref a2)] below meth c s₁ [] 0 0 := Stand.of_body Bd
  have e0 : s₁.heap = h0 := by rw [← hh, Bd.state]; rfl
  have N0 := Fr.nil n0
  show EndsQ p.tables e below s (fun v h L => QI0 Z a1 a2 kA h0 n0 v h L) ({ frames := 2, cells := 1, slots := 2, locals := 60 } : Room).cells ({ frames := 2, cells := 1, slots := 2, locals := 60 } : Room).slots _
  refine EndsQ.go (b := s₁.setTop (mkF m 0 #[.val (.ref a1), .val (.ref a2), .unset] [])) (fun t k => castTop (ef_I0 m a1 a2) k) ?_
  have K0 : Keep h0 h0 [a1] := Keep.refl _ _
  refine EndsQ.go (b := s₁.setTop (mkF m 1 #[.val (.ref a1), .val (.ref a2), .unset] [(.ref a1)])) (fun t k => ?_) ?_
  · show Steps p.tables e below (s₁.setTop (mkF m 0 #[.val (.ref a1), .val (.ref a2), .unset] [])) _
    refine XS.aloadN X0.here hx rfl (hb hby d1_0) rfl rfl ?_
    show Steps p.tables e below (s₁.setTop (mkF m 1 #[.val (.ref a1), .val (.ref a2), .unset] [(.ref a1)])) _
    exact k
  obtain ⟨T101, X101, e101, st101⟩ := initO X0 hx hZ hown (hw _ (List.mem_of_getElem? (i := 7) rfl)) (hw _ (List.mem_of_getElem? (i := 8) rfl)) (hw _ (List.mem_of_getElem? (i := 9) rfl)) e0 (g := (mkF m 1 #[.val (.ref a1), .val (.ref a2), .unset] [(.ref a1)])) rfl (by rw [hml]; rfl) rfl (hb hby d1_1) (by decide) (W := 0) (by show 2 * 0 + _ ≤ _; exact Nat.le_of_eq rfl) (by decide)
  refine EndsQ.go st101 ?_
  show EndsQ _ _ _ _ _ _ _ (T101.setTop (mkF m 4 #[.val (.ref a1), .val (.ref a2), .unset] []))
  refine EndsQ.go (b := T101.setTop (mkF m 5 #[.val (.ref a1), .val (.ref a2), .unset] [(.ref a2)])) (fun t k => ?_) ?_
  · show Steps p.tables e below (T101.setTop (mkF m 4 #[.val (.ref a1), .val (.ref a2), .unset] [])) _
    refine XS.aloadN X101.here hx rfl (hb hby d1_4) rfl rfl ?_
    show Steps p.tables e below (T101.setTop (mkF m 5 #[.val (.ref a1), .val (.ref a2), .unset] [(.ref a2)])) _
    exact k
  obtain ⟨cl102, Ar102, -, S102, M102, -, -⟩ := id V2
  refine EndsQ.go (fun t k => X101.arraylength hx (by rw [e101]; exact Ar102.1) (State.isArrayOf_alike hZ.alike Ar102.2.1) (g := (mkF m 5 #[.val (.ref a1), .val (.ref a2), .unset] [(.ref a2)])) rfl rfl (hb hby d1_5) _ k) ?_
  rw [len_of S102 M102]
  show EndsQ _ _ _ _ _ _ _ (T101.setTop (mkF m 6 #[.val (.ref a1), .val (.ref a2), .unset] [(.int (0 : Int32))]))
  refine EndsQ.go (b := T101.setTop (mkF m 30 #[.val (.ref a1), .val (.ref a2), .val (.int (0 : Int32))] [(.ref a2), (.int (0 : Int32)), (.ref a1)])) (fun t k => ?_) ?_
  · show Steps p.tables e below (T101.setTop (mkF m 6 #[.val (.ref a1), .val (.ref a2), .unset] [(.int (0 : Int32))])) _
    refine XS.istoreN X101.here hx rfl (hb hby d1_6) rfl (l' := #[.val (.ref a1), .val (.ref a2), .val (.int (0 : Int32))]) rfl ?_
    show Steps p.tables e below (T101.setTop (mkF m 7 #[.val (.ref a1), .val (.ref a2), .val (.int (0 : Int32))] [])) _
    refine XS.iloadN X101.here hx rfl (hb hby d1_7) rfl ?_
    show Steps p.tables e below (T101.setTop (mkF m 8 #[.val (.ref a1), .val (.ref a2), .val (.int (0 : Int32))] [(.int (0 : Int32))])) _
    refine XS.ifYes X101.here hx rfl (pc0 := 8) (pc' := 27) rfl (hb hby d1_8) rfl ((if0 _ _).trans (flt (by decide)).2.2.2) (by decide) (by decide) ?_
    show Steps p.tables e below (T101.setTop (mkF m 27 #[.val (.ref a1), .val (.ref a2), .val (.int (0 : Int32))] [])) _
    refine XS.aloadN X101.here hx rfl (hb hby d1_27) rfl rfl ?_
    show Steps p.tables e below (T101.setTop (mkF m 28 #[.val (.ref a1), .val (.ref a2), .val (.int (0 : Int32))] [(.ref a1)])) _
    refine XS.iloadN X101.here hx rfl (hb hby d1_28) rfl ?_
    show Steps p.tables e below (T101.setTop (mkF m 29 #[.val (.ref a1), .val (.ref a2), .val (.int (0 : Int32))] [(.int (0 : Int32)), (.ref a1)])) _
    refine XS.aloadN X101.here hx rfl (hb hby d1_29) rfl rfl ?_
    show Steps p.tables e below (T101.setTop (mkF m 30 #[.val (.ref a1), .val (.ref a2), .val (.int (0 : Int32))] [(.ref a2), (.int (0 : Int32)), (.ref a1)])) _
    exact k
  obtain ⟨cl103, Ar103, -, S103, M103, -, -⟩ := id V2
  refine EndsQ.go (fun t k => X101.arraylength hx (by rw [e101]; exact Ar103.1) (State.isArrayOf_alike hZ.alike Ar103.2.1) (g := (mkF m 30 #[.val (.ref a1), .val (.ref a2), .val (.int (0 : Int32))] [(.ref a2), (.int (0 : Int32)), (.ref a1)])) rfl rfl (hb hby d1_30) _ k) ?_
  rw [len_of S103 M103]
  show EndsQ _ _ _ _ _ _ _ (T101.setTop (mkF m 31 #[.val (.ref a1), .val (.ref a2), .val (.int (0 : Int32))] [(.int (0 : Int32)), (.int (0 : Int32)), (.ref a1)]))
  refine EndsQ.go (b := T101.setTop (mkF m 43 #[.val (.ref a1), .val (.ref a2), .val (.int (0 : Int32))] [(.ref a2), (.ref a1)])) (fun t k => ?_) ?_
  · show Steps p.tables e below (T101.setTop (mkF m 31 #[.val (.ref a1), .val (.ref a2), .val (.int (0 : Int32))] [(.int (0 : Int32)), (.int (0 : Int32)), (.ref a1)])) _
    refine XS.icmpNo X101.here hx rfl (hb hby d1_31) rfl (teq (by decide)).2 ?_
    show Steps p.tables e below (T101.setTop (mkF m 34 #[.val (.ref a1), .val (.ref a2), .val (.int (0 : Int32))] [(.ref a1)])) _
    refine XS.aloadN X101.here hx rfl (hb hby d1_34) rfl rfl ?_
    show Steps p.tables e below (T101.setTop (mkF m 35 #[.val (.ref a1), .val (.ref a2), .val (.int (0 : Int32))] [(.ref a2), (.ref a1)])) _
    refine XS.goto X101.here hx rfl (pc0 := 35) (pc' := 43) rfl (hb hby d1_35) (by decide) (by decide) ?_
    show Steps p.tables e below (T101.setTop (mkF m 43 #[.val (.ref a1), .val (.ref a2), .val (.int (0 : Int32))] [(.ref a2), (.ref a1)])) _
    exact k
  obtain ⟨T104, h104, X104, e104, W104, st104⟩ := putF X101 hx hZ hown (host := "") (Or.inl (hw _ (List.mem_of_getElem? (i := 10) rfl))) Via.refl e101 F_words E1 (Or.inr ⟨(hw _ (List.mem_of_getElem? (i := 11) rfl)), rfl, hnm⟩) (hw _ (List.mem_of_getElem? (i := 2) rfl)) (ty := (.array .long)) (by decide) rfl rfl (g := (mkF m 43 #[.val (.ref a1), .val (.ref a2), .val (.int (0 : Int32))] [(.ref a2), (.ref a1)])) rfl rfl (hb hby d1_43)
  have fw104 : Fld Z h104 a1 "com/example/sextant/sextant/ValueSet" "words" "[J" (.ref a2) := F_words.same W104
  have f105 : Exa Z h104 a1 "com/example/sextant/sextant/ValueSet" := E1.wr W104
  have f106 : Arv Z h104 a2 kA .long (0 : Int32) [] (.long (0 : Int64)) := V2.other W104 (Ne.symm hne)
  have f107 : n0 ≤ h104.size := Nat.le_trans Z0 (Keep.of_wr W104).1
  have f108 : Keep h0 h104 [a1] := K0.wr W104 (Or.inl (List.mem_of_getElem? (i := 0) rfl))
  have N104 := Fr.snoc X104 N0 g1
  refine EndsQ.go st104 ?_
  show EndsQ _ _ _ _ _ _ _ (T104.setTop (mkF m 46 #[.val (.ref a1), .val (.ref a2), .val (.int (0 : Int32))] []))
  refine EndsQ.retV X104 hx Bd.notSynchronized Bd.returns (hb hby d1_46) (by decide) (by decide) ?_
  show QI0 Z a1 a2 kA h0 n0 (none) T104.heap _
  rw [e104]
  exact ⟨a2, kA, _, _, rfl, N104, f108, f105, fw104, f106, ⟨rfl, rfl⟩⟩
theorem ef_I1 (m : MethodId) (x0 : Addr) (x1 : Addr) : entryFrame m #[(.ref x0), (.ref x1)] 3 = mkF m 0 #[.val (.ref x0), .val (.ref x1), .unset] [] := by first | (simp [entryFrame, mkF, argsToLocals, Value.category]; done) | rfl
def QI1 (Z : State) (a1 : Addr) (a2 : Addr) (kA : ClassId) (w0 : Int64) (h0 : Heap) (n0 : Nat) (v : Option Value) (h : Heap) (L : List Loc) : Prop := ∃ (b : Addr) (kB : ClassId) (m : Int32) (vs : List Value), v = none ∧ Fr n0 L ∧ Keep h0 h [a1] ∧ Exa Z h a1 "com/example/sextant/sextant/ValueSet" ∧ Fld Z h a1 "com/example/sextant/sextant/ValueSet" "words" "[J" (.ref b) ∧ Arv Z h b kB .long m vs (.long (0 : Int64)) ∧ ((m = (1 : Int32) ∧ vs = [(.long w0)]) ∨ (w0 = (0 : Int64) ∧ m = (0 : Int32) ∧ vs = []))
set_option maxRecDepth 65536 in
set_option maxHeartbeats 40000000 in
theorem rmI1 (l : Launch) (Z : State) (a0 : Array Value) (hw : ∀ d ∈ tables_1, d.before a0 Z = true) (ws : List Jvm.Cond) (a1 : Addr) (a2 : Addr) (kA : ClassId) (w0 : Int64) (h0 : Heap) (n0 : Nat) (Z0 : n0 ≤ h0.size) (F_words : Fld Z h0 a1 "com/example/sextant/sextant/ValueSet" "words" "[J" .null) (E1 : Exa Z h0 a1 "com/example/sextant/sextant/ValueSet") (g1 : n0 ≤ a1) (V2 : Arv Z h0 a2 kA .long (1 : Int32) [(.long w0)] (.long (0 : Int64))) (hne : a1 ≠ a2) :
    MetFree l (⟨"com/example/sextant/sextant/ValueSet", "<init>", "([J)V"⟩ : MethodName) (head1 (Jvm.Cond.code (⟨"com/example/sextant/sextant/ValueSet", "<init>", "([J)V"⟩ : MethodName) prog_21_method_1_code 3 none :: ws) ({ frames := 2, cells := 1, slots := 2, locals := 60 } : Room)) (fun a U => a = #[(.ref a1), (.ref a2)] ∧ Z.Warmed39 U.vm ∧ U.heap = h0) (fun _ _ _ _ _ => True) (fun _ U o U' => ∃ v L, o = .returned v ∧ QI1 Z a1 a2 kA w0 h0 n0 v U'.heap L ∧ FrameEnd U o U' L ({ frames := 2, cells := 1, slots := 2, locals := 60 } : Room).cells ({ frames := 2, cells := 1, slots := 2, locals := 60 } : Room).slots) := by
  refine MetFree.of_bodySF (plainFor_of_name pn_1) hisR ?_
  intro p e s m args below meth c s₁ Bd hml0 hP hK
  obtain ⟨rfl, hZ, hh⟩ := hP
  have hx := Bd.exec
  have hby := Bd.bytes
  have hml : c.maxLocals = 3 := hml0
  have hown : s.vm.findClass "com/example/sextant/sextant/ValueSet" = some m.cls := findClass_of_methodNamed Bd.named
  have hnm := (name_of_methodNamed Bd.named Bd.method).1
  have X0 : Stand p l e ({ frames := 2, cells := 1, slots := 2, locals := 60 } : Room) s m #[(.ref a1), (.ref a2)] below meth c s₁ [] 0 0 := Stand.of_body Bd
  have e0 : s₁.heap = h0 := by rw [← hh, Bd.state]; rfl
  have N0 := Fr.nil n0
  show EndsQ p.tables e below s (fun v h L => QI1 Z a1 a2 kA w0 h0 n0 v h L) ({ frames := 2, cells := 1, slots := 2, locals := 60 } : Room).cells ({ frames := 2, cells := 1, slots := 2, locals := 60 } : Room).slots _
  refine EndsQ.go (b := s₁.setTop (mkF m 0 #[.val (.ref a1), .val (.ref a2), .unset] [])) (fun t k => castTop (ef_I1 m a1 a2) k) ?_
  have K0 : Keep h0 h0 [a1] := Keep.refl _ _
  refine EndsQ.go (b := s₁.setTop (mkF m 1 #[.val (.ref a1), .val (.ref a2), .unset] [(.ref a1)])) (fun t k => ?_) ?_
  · show Steps p.tables e below (s₁.setTop (mkF m 0 #[.val (.ref a1), .val (.ref a2), .unset] [])) _
    refine XS.aloadN X0.here hx rfl (hb hby d1_0) rfl rfl ?_
    show Steps p.tables e below (s₁.setTop (mkF m 1 #[.val (.ref a1), .val (.ref a2), .unset] [(.ref a1)])) _
    exact k
  obtain ⟨T101, X101, e101, st101⟩ := initO X0 hx hZ hown (hw _ (List.mem_of_getElem? (i := 7) rfl)) (hw _ (List.mem_of_getElem? (i := 8) rfl)) (hw _ (List.mem_of_getElem? (i := 9) rfl)) e0 (g := (mkF m 1 #[.val (.ref a1), .val (.ref a2), .unset] [(.ref a1)])) rfl (by rw [hml]; rfl) rfl (hb hby d1_1) (by decide) (W := 0) (by show 2 * 0 + _ ≤ _; exact Nat.le_of_eq rfl) (by decide)
  refine EndsQ.go st101 ?_
  show EndsQ _ _ _ _ _ _ _ (T101.setTop (mkF m 4 #[.val (.ref a1), .val (.ref a2), .unset] []))
  refine EndsQ.go (b := T101.setTop (mkF m 5 #[.val (.ref a1), .val (.ref a2), .unset] [(.ref a2)])) (fun t k => ?_) ?_
  · show Steps p.tables e below (T101.setTop (mkF m 4 #[.val (.ref a1), .val (.ref a2), .unset] [])) _
    refine XS.aloadN X101.here hx rfl (hb hby d1_4) rfl rfl ?_
    show Steps p.tables e below (T101.setTop (mkF m 5 #[.val (.ref a1), .val (.ref a2), .unset] [(.ref a2)])) _
    exact k
  obtain ⟨cl102, Ar102, -, S102, M102, -, -⟩ := id V2
  refine EndsQ.go (fun t k => X101.arraylength hx (by rw [e101]; exact Ar102.1) (State.isArrayOf_alike hZ.alike Ar102.2.1) (g := (mkF m 5 #[.val (.ref a1), .val (.ref a2), .unset] [(.ref a2)])) rfl rfl (hb hby d1_5) _ k) ?_
  rw [len_of S102 M102]
  show EndsQ _ _ _ _ _ _ _ (T101.setTop (mkF m 6 #[.val (.ref a1), .val (.ref a2), .unset] [(.int (1 : Int32))]))
  refine EndsQ.go (b := T101.setTop (mkF m 15 #[.val (.ref a1), .val (.ref a2), .val (.int (1 : Int32))] [(.int (0 : Int32)), (.ref a2)])) (fun t k => ?_) ?_
  · show Steps p.tables e below (T101.setTop (mkF m 6 #[.val (.ref a1), .val (.ref a2), .unset] [(.int (1 : Int32))])) _
    refine XS.istoreN X101.here hx rfl (hb hby d1_6) rfl (l' := #[.val (.ref a1), .val (.ref a2), .val (.int (1 : Int32))]) rfl ?_
    show Steps p.tables e below (T101.setTop (mkF m 7 #[.val (.ref a1), .val (.ref a2), .val (.int (1 : Int32))] [])) _
    refine XS.iloadN X101.here hx rfl (hb hby d1_7) rfl ?_
    show Steps p.tables e below (T101.setTop (mkF m 8 #[.val (.ref a1), .val (.ref a2), .val (.int (1 : Int32))] [(.int (1 : Int32))])) _
    refine XS.ifNo X101.here hx rfl (hb hby d1_8) rfl ((if0 _ _).trans (tlt (by decide)).2.2.2) ?_
    show Steps p.tables e below (T101.setTop (mkF m 11 #[.val (.ref a1), .val (.ref a2), .val (.int (1 : Int32))] [])) _
    refine XS.aloadN X101.here hx rfl (hb hby d1_11) rfl rfl ?_
    show Steps p.tables e below (T101.setTop (mkF m 12 #[.val (.ref a1), .val (.ref a2), .val (.int (1 : Int32))] [(.ref a2)])) _
    refine XS.iloadN X101.here hx rfl (hb hby d1_12) rfl ?_
    show Steps p.tables e below (T101.setTop (mkF m 13 #[.val (.ref a1), .val (.ref a2), .val (.int (1 : Int32))] [(.int (1 : Int32)), (.ref a2)])) _
    refine XS.iconst X101.here hx rfl (hb hby d1_13) ?_
    show Steps p.tables e below (T101.setTop (mkF m 14 #[.val (.ref a1), .val (.ref a2), .val (.int (1 : Int32))] [(.int (1 : Int32)), (.int (1 : Int32)), (.ref a2)])) _
    refine XS.isub X101.here hx rfl (hb hby d1_14) rfl ?_
    show Steps p.tables e below (T101.setTop (mkF m 15 #[.val (.ref a1), .val (.ref a2), .val (.int (1 : Int32))] [(.int ((1 : Int32) - (1 : Int32))), (.ref a2)])) _
    rw [(by decide : ((1 : Int32) - (1 : Int32)) = (0 : Int32))]
    show Steps p.tables e below (T101.setTop (mkF m 15 #[.val (.ref a1), .val (.ref a2), .val (.int (1 : Int32))] [(.int (0 : Int32)), (.ref a2)])) _
    exact k
  obtain ⟨cl103, Ar103, q103, S103, M103, H103, G103⟩ := id V2
  have hin103 : ¬ ((0 : Int32) < 0 ∨ cl103.slots.size ≤ ((0 : Int32)).toNatClampNeg) := inb_of S103 ⟨by decide, by decide⟩
  have hat103 : cl103.slots[((0 : Int32)).toNatClampNeg]? = some (.long w0) := Has.at H103 hin103 rfl
  refine EndsQ.go (fun t k => X101.laload hx (j := (0 : Int32)) (v := (.long w0)) (by rw [e101]; exact Ar103.1) (State.isArrayOf_alike hZ.alike Ar103.2.1) Ar103.2.2 hin103 hat103 (g := (mkF m 15 #[.val (.ref a1), .val (.ref a2), .val (.int (1 : Int32))] [(.int (0 : Int32)), (.ref a2)])) rfl rfl (hb hby d1_15) _ k) ?_
  show EndsQ _ _ _ _ _ _ _ (T101.setTop (mkF m 16 #[.val (.ref a1), .val (.ref a2), .val (.int (1 : Int32))] [(.long w0)]))
  refine EndsQ.go (b := T101.setTop (mkF m 18 #[.val (.ref a1), .val (.ref a2), .val (.int (1 : Int32))] [(.int (lcmpW w0 (0 : Int64)))])) (fun t k => ?_) ?_
  · show Steps p.tables e below (T101.setTop (mkF m 16 #[.val (.ref a1), .val (.ref a2), .val (.int (1 : Int32))] [(.long w0)])) _
    refine XS.lconst X101.here hx rfl (hb hby d1_16) ?_
    show Steps p.tables e below (T101.setTop (mkF m 17 #[.val (.ref a1), .val (.ref a2), .val (.int (1 : Int32))] [(.long (0 : Int64)), (.long w0)])) _
    refine XS.lcmp X101.here hx rfl (hb hby d1_17) rfl ?_
    show Steps p.tables e below (T101.setTop (mkF m 18 #[.val (.ref a1), .val (.ref a2), .val (.int (1 : Int32))] [(.int (lcmpW w0 (0 : Int64)))])) _
    exact k
  by_cases hc18_104 : w0 = (0 : Int64)
  · refine EndsQ.go (b := T101.setTop (mkF m 21 #[.val (.ref a1), .val (.ref a2), .val (.int (1 : Int32))] [])) (fun t k => ?_) ?_
    · show Steps p.tables e below (T101.setTop (mkF m 18 #[.val (.ref a1), .val (.ref a2), .val (.int (1 : Int32))] [(.int (lcmpW w0 (0 : Int64)))])) _
      refine XS.ifNo X101.here hx rfl (hb hby d1_18) rfl ((if0 _ _).trans (teq ((lw_eq w0 (0 : Int64)).mpr hc18_104)).2) ?_
      show Steps p.tables e below (T101.setTop (mkF m 21 #[.val (.ref a1), .val (.ref a2), .val (.int (1 : Int32))] [])) _
      exact k
    refine EndsQ.go (b := T101.setTop (mkF m 30 #[.val (.ref a1), .val (.ref a2), .val (.int (0 : Int32))] [(.ref a2), (.int (0 : Int32)), (.ref a1)])) (fun t k => ?_) ?_
    · show Steps p.tables e below (T101.setTop (mkF m 21 #[.val (.ref a1), .val (.ref a2), .val (.int (1 : Int32))] [])) _
      refine XS.iinc X101.here hx rfl (hb hby d1_21) rfl (l' := #[.val (.ref a1), .val (.ref a2), .val (.int ((1 : Int32) + Int32.ofInt (-1)))]) rfl ?_
      show Steps p.tables e below (T101.setTop (mkF m 24 #[.val (.ref a1), .val (.ref a2), .val (.int ((1 : Int32) + Int32.ofInt (-1)))] [])) _
      rw [(by decide : ((1 : Int32) + Int32.ofInt (-1)) = (0 : Int32))]
      show Steps p.tables e below (T101.setTop (mkF m 24 #[.val (.ref a1), .val (.ref a2), .val (.int (0 : Int32))] [])) _
      refine XS.goto X101.here hx rfl (pc0 := 24) (pc' := 7) rfl (hb hby d1_24) (by decide) (by decide) ?_
      show Steps p.tables e below (T101.setTop (mkF m 7 #[.val (.ref a1), .val (.ref a2), .val (.int (0 : Int32))] [])) _
      refine XS.iloadN X101.here hx rfl (hb hby d1_7) rfl ?_
      show Steps p.tables e below (T101.setTop (mkF m 8 #[.val (.ref a1), .val (.ref a2), .val (.int (0 : Int32))] [(.int (0 : Int32))])) _
      refine XS.ifYes X101.here hx rfl (pc0 := 8) (pc' := 27) rfl (hb hby d1_8) rfl ((if0 _ _).trans (flt (by decide)).2.2.2) (by decide) (by decide) ?_
      show Steps p.tables e below (T101.setTop (mkF m 27 #[.val (.ref a1), .val (.ref a2), .val (.int (0 : Int32))] [])) _
      refine XS.aloadN X101.here hx rfl (hb hby d1_27) rfl rfl ?_
      show Steps p.tables e below (T101.setTop (mkF m 28 #[.val (.ref a1), .val (.ref a2), .val (.int (0 : Int32))] [(.ref a1)])) _
      refine XS.iloadN X101.here hx rfl (hb hby d1_28) rfl ?_
      show Steps p.tables e below (T101.setTop (mkF m 29 #[.val (.ref a1), .val (.ref a2), .val (.int (0 : Int32))] [(.int (0 : Int32)), (.ref a1)])) _
      refine XS.aloadN X101.here hx rfl (hb hby d1_29) rfl rfl ?_
      show Steps p.tables e below (T101.setTop (mkF m 30 #[.val (.ref a1), .val (.ref a2), .val (.int (0 : Int32))] [(.ref a2), (.int (0 : Int32)), (.ref a1)])) _
      exact k
    obtain ⟨cl105, Ar105, -, S105, M105, -, -⟩ := id V2
    refine EndsQ.go (fun t k => X101.arraylength hx (by rw [e101]; exact Ar105.1) (State.isArrayOf_alike hZ.alike Ar105.2.1) (g := (mkF m 30 #[.val (.ref a1), .val (.ref a2), .val (.int (0 : Int32))] [(.ref a2), (.int (0 : Int32)), (.ref a1)])) rfl rfl (hb hby d1_30) _ k) ?_
    rw [len_of S105 M105]
    show EndsQ _ _ _ _ _ _ _ (T101.setTop (mkF m 31 #[.val (.ref a1), .val (.ref a2), .val (.int (0 : Int32))] [(.int (1 : Int32)), (.int (0 : Int32)), (.ref a1)]))
    refine EndsQ.go (b := T101.setTop (mkF m 40 #[.val (.ref a1), .val (.ref a2), .val (.int (0 : Int32))] [(.int (0 : Int32)), (.ref a2), (.ref a1)])) (fun t k => ?_) ?_
    · show Steps p.tables e below (T101.setTop (mkF m 31 #[.val (.ref a1), .val (.ref a2), .val (.int (0 : Int32))] [(.int (1 : Int32)), (.int (0 : Int32)), (.ref a1)])) _
      refine XS.icmpYes X101.here hx rfl (pc0 := 31) (pc' := 38) rfl (hb hby d1_31) rfl (feq (by decide)).2 (by decide) (by decide) ?_
      show Steps p.tables e below (T101.setTop (mkF m 38 #[.val (.ref a1), .val (.ref a2), .val (.int (0 : Int32))] [(.ref a1)])) _
      refine XS.aloadN X101.here hx rfl (hb hby d1_38) rfl rfl ?_
      show Steps p.tables e below (T101.setTop (mkF m 39 #[.val (.ref a1), .val (.ref a2), .val (.int (0 : Int32))] [(.ref a2), (.ref a1)])) _
      refine XS.iloadN X101.here hx rfl (hb hby d1_39) rfl ?_
      show Steps p.tables e below (T101.setTop (mkF m 40 #[.val (.ref a1), .val (.ref a2), .val (.int (0 : Int32))] [(.int (0 : Int32)), (.ref a2), (.ref a1)])) _
      exact k
    obtain ⟨_, _, ⟨T106, L106, kk106, nn106⟩, -, X106, ⟨Lc106, hQ106, l106, y106, z106⟩, st106⟩ := Jvm.LawKit.callS X101 hx (y := (⟨"java/util/Arrays", "copyOf", "([JI)[J"⟩ : MethodName)) hown (mvT hZ (hw _ (List.mem_of_getElem? (i := 18) rfl))) (mvT hZ (hw _ (List.mem_of_getElem? (i := 19) rfl))) (mvT hZ (hw _ (List.mem_of_getElem? (i := 20) rfl))) (mvT hZ (hw _ (List.mem_of_getElem? (i := 21) rfl))) (by decide) (backOf (W := 1) (rmCp10 l Z a0 hw [] a2 kA w0 h0 n0 Z0 V2) hZ (hw _ (List.mem_of_getElem? (i := 21) rfl)) (hw _ (List.mem_of_getElem? (i := 20) rfl)) (by decide) (by decide)) (g := (mkF m 40 #[.val (.ref a1), .val (.ref a2), .val (.int (0 : Int32))] [(.int (0 : Int32)), (.ref a2), (.ref a1)])) rfl (by rw [hml]; rfl) (argsL := [(.ref a2), (.int (0 : Int32))]) (rest := [(.ref a1)]) (lenOf pd_1 rfl) rfl (by show 2 * 0 + _ ≤ _; exact Nat.le_of_eq rfl) (hb hby d1_40) (fun _ _ => ⟨rfl, e101, (by decide : 0 + 1 ≤ _), (by decide : 0 + 2 ≤ _)⟩)
    dsimp only [Pt.U, Pt.locs, Pt.cells, Pt.slots] at X106 l106 y106 z106 st106 hQ106
    subst l106 y106 z106
    obtain ⟨c106, kc106, rfl, Nq106, Kc106, gc106, gd106, Vc106⟩ := hQ106
    have N106 := Fr.app N0 Nq106
    have f107 : Fld Z T106.heap a1 "com/example/sextant/sextant/ValueSet" "words" "[J" .null := F_words.keep Kc106 nin0
    have f108 : Exa Z T106.heap a1 "com/example/sextant/sextant/ValueSet" := E1.keep Kc106
    have f109 : Arv Z T106.heap a2 kA .long (1 : Int32) [(.long w0)] (.long (0 : Int64)) := V2.keep Kc106 nin0
    have f110 : n0 ≤ T106.heap.size := Nat.le_trans Z0 Kc106.1
    have f111 : Keep h0 T106.heap [a1] := K0.trans Kc106 all0
    have nec106 : a1 ≠ c106 := Nat.ne_of_lt (Nat.lt_of_lt_of_le E1.lt gd106)
    refine EndsQ.go st106 ?_
    show EndsQ _ _ _ _ _ _ _ (T106.setTop (mkF m 43 #[.val (.ref a1), .val (.ref a2), .val (.int (0 : Int32))] [(.ref c106), (.ref a1)]))
    obtain ⟨T112, h112, X112, e112, W112, st112⟩ := putF X106 hx hZ hown (host := "") (Or.inl (hw _ (List.mem_of_getElem? (i := 10) rfl))) Via.refl rfl f107 f108 (Or.inr ⟨(hw _ (List.mem_of_getElem? (i := 11) rfl)), rfl, hnm⟩) (hw _ (List.mem_of_getElem? (i := 2) rfl)) (ty := (.array .long)) (by decide) rfl rfl (g := (mkF m 43 #[.val (.ref a1), .val (.ref a2), .val (.int (0 : Int32))] [(.ref c106), (.ref a1)])) rfl rfl (hb hby d1_43)
    have fw112 : Fld Z h112 a1 "com/example/sextant/sextant/ValueSet" "words" "[J" (.ref c106) := f107.same W112
    have f113 : Exa Z h112 a1 "com/example/sextant/sextant/ValueSet" := f108.wr W112
    have f114 : Arv Z h112 a2 kA .long (1 : Int32) [(.long w0)] (.long (0 : Int64)) := f109.other W112 (Ne.symm hne)
    have f115 : n0 ≤ h112.size := Nat.le_trans f110 (Keep.of_wr W112).1
    have f116 : Keep h0 h112 [a1] := f111.wr W112 (Or.inl (List.mem_of_getElem? (i := 0) rfl))
    have f117 : Arv Z h112 c106 kc106 .long (0 : Int32) [] (.long (0 : Int64)) := Vc106.other W112 (Ne.symm nec106)
    have N112 := Fr.snoc X112 N106 g1
    refine EndsQ.go st112 ?_
    show EndsQ _ _ _ _ _ _ _ (T112.setTop (mkF m 46 #[.val (.ref a1), .val (.ref a2), .val (.int (0 : Int32))] []))
    refine EndsQ.retV X112 hx Bd.notSynchronized Bd.returns (hb hby d1_46) (by decide) (by decide) ?_
    show QI1 Z a1 a2 kA w0 h0 n0 (none) T112.heap _
    rw [e112]
    exact ⟨c106, kc106, _, _, rfl, N112, f116, f113, fw112, f117, (Or.inr ⟨hc18_104, rfl, rfl⟩)⟩
  · refine EndsQ.go (b := T101.setTop (mkF m 27 #[.val (.ref a1), .val (.ref a2), .val (.int (1 : Int32))] [])) (fun t k => ?_) ?_
    · show Steps p.tables e below (T101.setTop (mkF m 18 #[.val (.ref a1), .val (.ref a2), .val (.int (1 : Int32))] [(.int (lcmpW w0 (0 : Int64)))])) _
      refine XS.ifYes X101.here hx rfl (pc0 := 18) (pc' := 27) rfl (hb hby d1_18) rfl ((if0 _ _).trans (feq (fun q => hc18_104 ((lw_eq w0 (0 : Int64)).mp q))).2) (by decide) (by decide) ?_
      show Steps p.tables e below (T101.setTop (mkF m 27 #[.val (.ref a1), .val (.ref a2), .val (.int (1 : Int32))] [])) _
      exact k
    refine EndsQ.go (b := T101.setTop (mkF m 30 #[.val (.ref a1), .val (.ref a2), .val (.int (1 : Int32))] [(.ref a2), (.int (1 : Int32)), (.ref a1)])) (fun t k => ?_) ?_
    · show Steps p.tables e below (T101.setTop (mkF m 27 #[.val (.ref a1), .val (.ref a2), .val (.int (1 : Int32))] [])) _
      refine XS.aloadN X101.here hx rfl (hb hby d1_27) rfl rfl ?_
      show Steps p.tables e below (T101.setTop (mkF m 28 #[.val (.ref a1), .val (.ref a2), .val (.int (1 : Int32))] [(.ref a1)])) _
      refine XS.iloadN X101.here hx rfl (hb hby d1_28) rfl ?_
      show Steps p.tables e below (T101.setTop (mkF m 29 #[.val (.ref a1), .val (.ref a2), .val (.int (1 : Int32))] [(.int (1 : Int32)), (.ref a1)])) _
      refine XS.aloadN X101.here hx rfl (hb hby d1_29) rfl rfl ?_
      show Steps p.tables e below (T101.setTop (mkF m 30 #[.val (.ref a1), .val (.ref a2), .val (.int (1 : Int32))] [(.ref a2), (.int (1 : Int32)), (.ref a1)])) _
      exact k
    obtain ⟨cl118, Ar118, -, S118, M118, -, -⟩ := id V2
    refine EndsQ.go (fun t k => X101.arraylength hx (by rw [e101]; exact Ar118.1) (State.isArrayOf_alike hZ.alike Ar118.2.1) (g := (mkF m 30 #[.val (.ref a1), .val (.ref a2), .val (.int (1 : Int32))] [(.ref a2), (.int (1 : Int32)), (.ref a1)])) rfl rfl (hb hby d1_30) _ k) ?_
    rw [len_of S118 M118]
    show EndsQ _ _ _ _ _ _ _ (T101.setTop (mkF m 31 #[.val (.ref a1), .val (.ref a2), .val (.int (1 : Int32))] [(.int (1 : Int32)), (.int (1 : Int32)), (.ref a1)]))
    refine EndsQ.go (b := T101.setTop (mkF m 43 #[.val (.ref a1), .val (.ref a2), .val (.int (1 : Int32))] [(.ref a2), (.ref a1)])) (fun t k => ?_) ?_
    · show Steps p.tables e below (T101.setTop (mkF m 31 #[.val (.ref a1), .val (.ref a2), .val (.int (1 : Int32))] [(.int (1 : Int32)), (.int (1 : Int32)), (.ref a1)])) _
      refine XS.icmpNo X101.here hx rfl (hb hby d1_31) rfl (teq (by decide)).2 ?_
      show Steps p.tables e below (T101.setTop (mkF m 34 #[.val (.ref a1), .val (.ref a2), .val (.int (1 : Int32))] [(.ref a1)])) _
      refine XS.aloadN X101.here hx rfl (hb hby d1_34) rfl rfl ?_
      show Steps p.tables e below (T101.setTop (mkF m 35 #[.val (.ref a1), .val (.ref a2), .val (.int (1 : Int32))] [(.ref a2), (.ref a1)])) _
      refine XS.goto X101.here hx rfl (pc0 := 35) (pc' := 43) rfl (hb hby d1_35) (by decide) (by decide) ?_
      show Steps p.tables e below (T101.setTop (mkF m 43 #[.val (.ref a1), .val (.ref a2), .val (.int (1 : Int32))] [(.ref a2), (.ref a1)])) _
      exact k
    obtain ⟨T119, h119, X119, e119, W119, st119⟩ := putF X101 hx hZ hown (host := "") (Or.inl (hw _ (List.mem_of_getElem? (i := 10) rfl))) Via.refl e101 F_words E1 (Or.inr ⟨(hw _ (List.mem_of_getElem? (i := 11) rfl)), rfl, hnm⟩) (hw _ (List.mem_of_getElem? (i := 2) rfl)) (ty := (.array .long)) (by decide) rfl rfl (g := (mkF m 43 #[.val (.ref a1), .val (.ref a2), .val (.int (1 : Int32))] [(.ref a2), (.ref a1)])) rfl rfl (hb hby d1_43)
    have fw119 : Fld Z h119 a1 "com/example/sextant/sextant/ValueSet" "words" "[J" (.ref a2) := F_words.same W119
    have f120 : Exa Z h119 a1 "com/example/sextant/sextant/ValueSet" := E1.wr W119
    have f121 : Arv Z h119 a2 kA .long (1 : Int32) [(.long w0)] (.long (0 : Int64)) := V2.other W119 (Ne.symm hne)
    have f122 : n0 ≤ h119.size := Nat.le_trans Z0 (Keep.of_wr W119).1
    have f123 : Keep h0 h119 [a1] := K0.wr W119 (Or.inl (List.mem_of_getElem? (i := 0) rfl))
    have N119 := Fr.snoc X119 N0 g1
    refine EndsQ.go st119 ?_
    show EndsQ _ _ _ _ _ _ _ (T119.setTop (mkF m 46 #[.val (.ref a1), .val (.ref a2), .val (.int (1 : Int32))] []))
    refine EndsQ.retV X119 hx Bd.notSynchronized Bd.returns (hb hby d1_46) (by decide) (by decide) ?_
    show QI1 Z a1 a2 kA w0 h0 n0 (none) T119.heap _
    rw [e119]
    exact ⟨a2, kA, _, _, rfl, N119, f123, f120, fw119, f121, (Or.inl ⟨rfl, rfl⟩)⟩
theorem ef_I2 (m : MethodId) (x0 : Addr) (x1 : Addr) : entryFrame m #[(.ref x0), (.ref x1)] 3 = mkF m 0 #[.val (.ref x0), .val (.ref x1), .unset] [] := by first | (simp [entryFrame, mkF, argsToLocals, Value.category]; done) | rfl
def QI2 (Z : State) (a1 : Addr) (a2 : Addr) (kA : ClassId) (w0 : Int64) (w1 : Int64) (h0 : Heap) (n0 : Nat) (v : Option Value) (h : Heap) (L : List Loc) : Prop := ∃ (b : Addr) (kB : ClassId) (m : Int32) (vs : List Value), v = none ∧ Fr n0 L ∧ Keep h0 h [a1] ∧ Exa Z h a1 "com/example/sextant/sextant/ValueSet" ∧ Fld Z h a1 "com/example/sextant/sextant/ValueSet" "words" "[J" (.ref b) ∧ Arv Z h b kB .long m vs (.long (0 : Int64)) ∧ ((m = (2 : Int32) ∧ vs = [(.long w0), (.long w1)]) ∨ (w1 = (0 : Int64) ∧ m = (1 : Int32) ∧ vs = [(.long w0)]) ∨ (w1 = (0 : Int64) ∧ w0 = (0 : Int64) ∧ m = (0 : Int32) ∧ vs = []))
set_option maxRecDepth 65536 in
set_option maxHeartbeats 40000000 in
theorem rmI2 (l : Launch) (Z : State) (a0 : Array Value) (hw : ∀ d ∈ tables_1, d.before a0 Z = true) (ws : List Jvm.Cond) (a1 : Addr) (a2 : Addr) (kA : ClassId) (w0 : Int64) (w1 : Int64) (h0 : Heap) (n0 : Nat) (Z0 : n0 ≤ h0.size) (F_words : Fld Z h0 a1 "com/example/sextant/sextant/ValueSet" "words" "[J" .null) (E1 : Exa Z h0 a1 "com/example/sextant/sextant/ValueSet") (g1 : n0 ≤ a1) (V2 : Arv Z h0 a2 kA .long (2 : Int32) [(.long w0), (.long w1)] (.long (0 : Int64))) (hne : a1 ≠ a2) :
    MetFree l (⟨"com/example/sextant/sextant/ValueSet", "<init>", "([J)V"⟩ : MethodName) (head1 (Jvm.Cond.code (⟨"com/example/sextant/sextant/ValueSet", "<init>", "([J)V"⟩ : MethodName) prog_21_method_1_code 3 none :: ws) ({ frames := 2, cells := 1, slots := 2, locals := 60 } : Room)) (fun a U => a = #[(.ref a1), (.ref a2)] ∧ Z.Warmed39 U.vm ∧ U.heap = h0) (fun _ _ _ _ _ => True) (fun _ U o U' => ∃ v L, o = .returned v ∧ QI2 Z a1 a2 kA w0 w1 h0 n0 v U'.heap L ∧ FrameEnd U o U' L ({ frames := 2, cells := 1, slots := 2, locals := 60 } : Room).cells ({ frames := 2, cells := 1, slots := 2, locals := 60 } : Room).slots) := by
  refine MetFree.of_bodySF (plainFor_of_name pn_1) hisR ?_
  intro p e s m args below meth c s₁ Bd hml0 hP hK
  obtain ⟨rfl, hZ, hh⟩ := hP
  have hx := Bd.exec
  have hby := Bd.bytes
  have hml : c.maxLocals = 3 := hml0
  have hown : s.vm.findClass "com/example/sextant/sextant/ValueSet" = some m.cls := findClass_of_methodNamed Bd.named
  have hnm := (name_of_methodNamed Bd.named Bd.method).1
  have X0 : Stand p l e ({ frames := 2, cells := 1, slots := 2, locals := 60 } : Room) s m #[(.ref a1), (.ref a2)] below meth c s₁ [] 0 0 := Stand.of_body Bd
  have e0 : s₁.heap = h0 := by rw [← hh, Bd.state]; rfl
  have N0 := Fr.nil n0
  show EndsQ p.tables e below s (fun v h L => QI2 Z a1 a2 kA w0 w1 h0 n0 v h L) ({ frames := 2, cells := 1, slots := 2, locals := 60 } : Room).cells ({ frames := 2, cells := 1, slots := 2, locals := 60 } : Room).slots _
  refine EndsQ.go (b := s₁.setTop (mkF m 0 #[.val (.ref a1), .val (.ref a2), .unset] [])) (fun t k => castTop (ef_I2 m a1 a2) k) ?_
  have K0 : Keep h0 h0 [a1] := Keep.refl _ _
  refine EndsQ.go (b := s₁.setTop (mkF m 1 #[.val (.ref a1), .val (.ref a2), .unset] [(.ref a1)])) (fun t k => ?_) ?_
  · show Steps p.tables e below (s₁.setTop (mkF m 0 #[.val (.ref a1), .val (.ref a2), .unset] [])) _
    refine XS.aloadN X0.here hx rfl (hb hby d1_0) rfl rfl ?_
    show Steps p.tables e below (s₁.setTop (mkF m 1 #[.val (.ref a1), .val (.ref a2), .unset] [(.ref a1)])) _
    exact k
  obtain ⟨T101, X101, e101, st101⟩ := initO X0 hx hZ hown (hw _ (List.mem_of_getElem? (i := 7) rfl)) (hw _ (List.mem_of_getElem? (i := 8) rfl)) (hw _ (List.mem_of_getElem? (i := 9) rfl)) e0 (g := (mkF m 1 #[.val (.ref a1), .val (.ref a2), .unset] [(.ref a1)])) rfl (by rw [hml]; rfl) rfl (hb hby d1_1) (by decide) (W := 0) (by show 2 * 0 + _ ≤ _; exact Nat.le_of_eq rfl) (by decide)
  refine EndsQ.go st101 ?_
  show EndsQ _ _ _ _ _ _ _ (T101.setTop (mkF m 4 #[.val (.ref a1), .val (.ref a2), .unset] []))
  refine EndsQ.go (b := T101.setTop (mkF m 5 #[.val (.ref a1), .val (.ref a2), .unset] [(.ref a2)])) (fun t k => ?_) ?_
  · show Steps p.tables e below (T101.setTop (mkF m 4 #[.val (.ref a1), .val (.ref a2), .unset] [])) _
    refine XS.aloadN X101.here hx rfl (hb hby d1_4) rfl rfl ?_
    show Steps p.tables e below (T101.setTop (mkF m 5 #[.val (.ref a1), .val (.ref a2), .unset] [(.ref a2)])) _
    exact k
  obtain ⟨cl102, Ar102, -, S102, M102, -, -⟩ := id V2
  refine EndsQ.go (fun t k => X101.arraylength hx (by rw [e101]; exact Ar102.1) (State.isArrayOf_alike hZ.alike Ar102.2.1) (g := (mkF m 5 #[.val (.ref a1), .val (.ref a2), .unset] [(.ref a2)])) rfl rfl (hb hby d1_5) _ k) ?_
  rw [len_of S102 M102]
  show EndsQ _ _ _ _ _ _ _ (T101.setTop (mkF m 6 #[.val (.ref a1), .val (.ref a2), .unset] [(.int (2 : Int32))]))
  refine EndsQ.go (b := T101.setTop (mkF m 15 #[.val (.ref a1), .val (.ref a2), .val (.int (2 : Int32))] [(.int (1 : Int32)), (.ref a2)])) (fun t k => ?_) ?_
  · show Steps p.tables e below (T101.setTop (mkF m 6 #[.val (.ref a1), .val (.ref a2), .unset] [(.int (2 : Int32))])) _
    refine XS.istoreN X101.here hx rfl (hb hby d1_6) rfl (l' := #[.val (.ref a1), .val (.ref a2), .val (.int (2 : Int32))]) rfl ?_
    show Steps p.tables e below (T101.setTop (mkF m 7 #[.val (.ref a1), .val (.ref a2), .val (.int (2 : Int32))] [])) _
    refine XS.iloadN X101.here hx rfl (hb hby d1_7) rfl ?_
    show Steps p.tables e below (T101.setTop (mkF m 8 #[.val (.ref a1), .val (.ref a2), .val (.int (2 : Int32))] [(.int (2 : Int32))])) _
    refine XS.ifNo X101.here hx rfl (hb hby d1_8) rfl ((if0 _ _).trans (tlt (by decide)).2.2.2) ?_
    show Steps p.tables e below (T101.setTop (mkF m 11 #[.val (.ref a1), .val (.ref a2), .val (.int (2 : Int32))] [])) _
    refine XS.aloadN X101.here hx rfl (hb hby d1_11) rfl rfl ?_
    show Steps p.tables e below (T101.setTop (mkF m 12 #[.val (.ref a1), .val (.ref a2), .val (.int (2 : Int32))] [(.ref a2)])) _
    refine XS.iloadN X101.here hx rfl (hb hby d1_12) rfl ?_
    show Steps p.tables e below (T101.setTop (mkF m 13 #[.val (.ref a1), .val (.ref a2), .val (.int (2 : Int32))] [(.int (2 : Int32)), (.ref a2)])) _
    refine XS.iconst X101.here hx rfl (hb hby d1_13) ?_
    show Steps p.tables e below (T101.setTop (mkF m 14 #[.val (.ref a1), .val (.ref a2), .val (.int (2 : Int32))] [(.int (1 : Int32)), (.int (2 : Int32)), (.ref a2)])) _
    refine XS.isub X101.here hx rfl (hb hby d1_14) rfl ?_
    show Steps p.tables e below (T101.setTop (mkF m 15 #[.val (.ref a1), .val (.ref a2), .val (.int (2 : Int32))] [(.int ((2 : Int32) - (1 : Int32))), (.ref a2)])) _
    rw [(by decide : ((2 : Int32) - (1 : Int32)) = (1 : Int32))]
    show Steps p.tables e below (T101.setTop (mkF m 15 #[.val (.ref a1), .val (.ref a2), .val (.int (2 : Int32))] [(.int (1 : Int32)), (.ref a2)])) _
    exact k
  obtain ⟨cl103, Ar103, q103, S103, M103, H103, G103⟩ := id V2
  have hin103 : ¬ ((1 : Int32) < 0 ∨ cl103.slots.size ≤ ((1 : Int32)).toNatClampNeg) := inb_of S103 ⟨by decide, by decide⟩
  have hat103 : cl103.slots[((1 : Int32)).toNatClampNeg]? = some (.long w1) := Has.at H103 hin103 rfl
  refine EndsQ.go (fun t k => X101.laload hx (j := (1 : Int32)) (v := (.long w1)) (by rw [e101]; exact Ar103.1) (State.isArrayOf_alike hZ.alike Ar103.2.1) Ar103.2.2 hin103 hat103 (g := (mkF m 15 #[.val (.ref a1), .val (.ref a2), .val (.int (2 : Int32))] [(.int (1 : Int32)), (.ref a2)])) rfl rfl (hb hby d1_15) _ k) ?_
  show EndsQ _ _ _ _ _ _ _ (T101.setTop (mkF m 16 #[.val (.ref a1), .val (.ref a2), .val (.int (2 : Int32))] [(.long w1)]))
  refine EndsQ.go (b := T101.setTop (mkF m 18 #[.val (.ref a1), .val (.ref a2), .val (.int (2 : Int32))] [(.int (lcmpW w1 (0 : Int64)))])) (fun t k => ?_) ?_
  · show Steps p.tables e below (T101.setTop (mkF m 16 #[.val (.ref a1), .val (.ref a2), .val (.int (2 : Int32))] [(.long w1)])) _
    refine XS.lconst X101.here hx rfl (hb hby d1_16) ?_
    show Steps p.tables e below (T101.setTop (mkF m 17 #[.val (.ref a1), .val (.ref a2), .val (.int (2 : Int32))] [(.long (0 : Int64)), (.long w1)])) _
    refine XS.lcmp X101.here hx rfl (hb hby d1_17) rfl ?_
    show Steps p.tables e below (T101.setTop (mkF m 18 #[.val (.ref a1), .val (.ref a2), .val (.int (2 : Int32))] [(.int (lcmpW w1 (0 : Int64)))])) _
    exact k
  by_cases hc18_104 : w1 = (0 : Int64)
  · refine EndsQ.go (b := T101.setTop (mkF m 21 #[.val (.ref a1), .val (.ref a2), .val (.int (2 : Int32))] [])) (fun t k => ?_) ?_
    · show Steps p.tables e below (T101.setTop (mkF m 18 #[.val (.ref a1), .val (.ref a2), .val (.int (2 : Int32))] [(.int (lcmpW w1 (0 : Int64)))])) _
      refine XS.ifNo X101.here hx rfl (hb hby d1_18) rfl ((if0 _ _).trans (teq ((lw_eq w1 (0 : Int64)).mpr hc18_104)).2) ?_
      show Steps p.tables e below (T101.setTop (mkF m 21 #[.val (.ref a1), .val (.ref a2), .val (.int (2 : Int32))] [])) _
      exact k
    refine EndsQ.go (b := T101.setTop (mkF m 15 #[.val (.ref a1), .val (.ref a2), .val (.int (1 : Int32))] [(.int (0 : Int32)), (.ref a2)])) (fun t k => ?_) ?_
    · show Steps p.tables e below (T101.setTop (mkF m 21 #[.val (.ref a1), .val (.ref a2), .val (.int (2 : Int32))] [])) _
      refine XS.iinc X101.here hx rfl (hb hby d1_21) rfl (l' := #[.val (.ref a1), .val (.ref a2), .val (.int ((2 : Int32) + Int32.ofInt (-1)))]) rfl ?_
      show Steps p.tables e below (T101.setTop (mkF m 24 #[.val (.ref a1), .val (.ref a2), .val (.int ((2 : Int32) + Int32.ofInt (-1)))] [])) _
      rw [(by decide : ((2 : Int32) + Int32.ofInt (-1)) = (1 : Int32))]
      show Steps p.tables e below (T101.setTop (mkF m 24 #[.val (.ref a1), .val (.ref a2), .val (.int (1 : Int32))] [])) _
      refine XS.goto X101.here hx rfl (pc0 := 24) (pc' := 7) rfl (hb hby d1_24) (by decide) (by decide) ?_
      show Steps p.tables e below (T101.setTop (mkF m 7 #[.val (.ref a1), .val (.ref a2), .val (.int (1 : Int32))] [])) _
      refine XS.iloadN X101.here hx rfl (hb hby d1_7) rfl ?_
      show Steps p.tables e below (T101.setTop (mkF m 8 #[.val (.ref a1), .val (.ref a2), .val (.int (1 : Int32))] [(.int (1 : Int32))])) _
      refine XS.ifNo X101.here hx rfl (hb hby d1_8) rfl ((if0 _ _).trans (tlt (by decide)).2.2.2) ?_
      show Steps p.tables e below (T101.setTop (mkF m 11 #[.val (.ref a1), .val (.ref a2), .val (.int (1 : Int32))] [])) _
      refine XS.aloadN X101.here hx rfl (hb hby d1_11) rfl rfl ?_
      show Steps p.tables e below (T101.setTop (mkF m 12 #[.val (.ref a1), .val (.ref a2), .val (.int (1 : Int32))] [(.ref a2)])) _
      refine XS.iloadN X101.here hx rfl (hb hby d1_12) rfl ?_
      show Steps p.tables e below (T101.setTop (mkF m 13 #[.val (.ref a1), .val (.ref a2), .val (.int (1 : Int32))] [(.int (1 : Int32)), (.ref a2)])) _
      refine XS.iconst X101.here hx rfl (hb hby d1_13) ?_
      show Steps p.tables e below (T101.setTop (mkF m 14 #[.val (.ref a1), .val (.ref a2), .val (.int (1 : Int32))] [(.int (1 : Int32)), (.int (1 : Int32)), (.ref a2)])) _
      refine XS.isub X101.here hx rfl (hb hby d1_14) rfl ?_
      show Steps p.tables e below (T101.setTop (mkF m 15 #[.val (.ref a1), .val (.ref a2), .val (.int (1 : Int32))] [(.int ((1 : Int32) - (1 : Int32))), (.ref a2)])) _
      rw [(by decide : ((1 : Int32) - (1 : Int32)) = (0 : Int32))]
      show Steps p.tables e below (T101.setTop (mkF m 15 #[.val (.ref a1), .val (.ref a2), .val (.int (1 : Int32))] [(.int (0 : Int32)), (.ref a2)])) _
      exact k
    obtain ⟨cl105, Ar105, q105, S105, M105, H105, G105⟩ := id V2
    have hin105 : ¬ ((0 : Int32) < 0 ∨ cl105.slots.size ≤ ((0 : Int32)).toNatClampNeg) := inb_of S105 ⟨by decide, by decide⟩
    have hat105 : cl105.slots[((0 : Int32)).toNatClampNeg]? = some (.long w0) := Has.at H105 hin105 rfl
    refine EndsQ.go (fun t k => X101.laload hx (j := (0 : Int32)) (v := (.long w0)) (by rw [e101]; exact Ar105.1) (State.isArrayOf_alike hZ.alike Ar105.2.1) Ar105.2.2 hin105 hat105 (g := (mkF m 15 #[.val (.ref a1), .val (.ref a2), .val (.int (1 : Int32))] [(.int (0 : Int32)), (.ref a2)])) rfl rfl (hb hby d1_15) _ k) ?_
    show EndsQ _ _ _ _ _ _ _ (T101.setTop (mkF m 16 #[.val (.ref a1), .val (.ref a2), .val (.int (1 : Int32))] [(.long w0)]))
    refine EndsQ.go (b := T101.setTop (mkF m 18 #[.val (.ref a1), .val (.ref a2), .val (.int (1 : Int32))] [(.int (lcmpW w0 (0 : Int64)))])) (fun t k => ?_) ?_
    · show Steps p.tables e below (T101.setTop (mkF m 16 #[.val (.ref a1), .val (.ref a2), .val (.int (1 : Int32))] [(.long w0)])) _
      refine XS.lconst X101.here hx rfl (hb hby d1_16) ?_
      show Steps p.tables e below (T101.setTop (mkF m 17 #[.val (.ref a1), .val (.ref a2), .val (.int (1 : Int32))] [(.long (0 : Int64)), (.long w0)])) _
      refine XS.lcmp X101.here hx rfl (hb hby d1_17) rfl ?_
      show Steps p.tables e below (T101.setTop (mkF m 18 #[.val (.ref a1), .val (.ref a2), .val (.int (1 : Int32))] [(.int (lcmpW w0 (0 : Int64)))])) _
      exact k
    by_cases hc18_106 : w0 = (0 : Int64)
    · refine EndsQ.go (b := T101.setTop (mkF m 21 #[.val (.ref a1), .val (.ref a2), .val (.int (1 : Int32))] [])) (fun t k => ?_) ?_
      · show Steps p.tables e below (T101.setTop (mkF m 18 #[.val (.ref a1), .val (.ref a2), .val (.int (1 : Int32))] [(.int (lcmpW w0 (0 : Int64)))])) _
        refine XS.ifNo X101.here hx rfl (hb hby d1_18) rfl ((if0 _ _).trans (teq ((lw_eq w0 (0 : Int64)).mpr hc18_106)).2) ?_
        show Steps p.tables e below (T101.setTop (mkF m 21 #[.val (.ref a1), .val (.ref a2), .val (.int (1 : Int32))] [])) _
        exact k
      refine EndsQ.go (b := T101.setTop (mkF m 30 #[.val (.ref a1), .val (.ref a2), .val (.int (0 : Int32))] [(.ref a2), (.int (0 : Int32)), (.ref a1)])) (fun t k => ?_) ?_
      · show Steps p.tables e below (T101.setTop (mkF m 21 #[.val (.ref a1), .val (.ref a2), .val (.int (1 : Int32))] [])) _
        refine XS.iinc X101.here hx rfl (hb hby d1_21) rfl (l' := #[.val (.ref a1), .val (.ref a2), .val (.int ((1 : Int32) + Int32.ofInt (-1)))]) rfl ?_
        show Steps p.tables e below (T101.setTop (mkF m 24 #[.val (.ref a1), .val (.ref a2), .val (.int ((1 : Int32) + Int32.ofInt (-1)))] [])) _
        rw [(by decide : ((1 : Int32) + Int32.ofInt (-1)) = (0 : Int32))]
        show Steps p.tables e below (T101.setTop (mkF m 24 #[.val (.ref a1), .val (.ref a2), .val (.int (0 : Int32))] [])) _
        refine XS.goto X101.here hx rfl (pc0 := 24) (pc' := 7) rfl (hb hby d1_24) (by decide) (by decide) ?_
        show Steps p.tables e below (T101.setTop (mkF m 7 #[.val (.ref a1), .val (.ref a2), .val (.int (0 : Int32))] [])) _
        refine XS.iloadN X101.here hx rfl (hb hby d1_7) rfl ?_
        show Steps p.tables e below (T101.setTop (mkF m 8 #[.val (.ref a1), .val (.ref a2), .val (.int (0 : Int32))] [(.int (0 : Int32))])) _
        refine XS.ifYes X101.here hx rfl (pc0 := 8) (pc' := 27) rfl (hb hby d1_8) rfl ((if0 _ _).trans (flt (by decide)).2.2.2) (by decide) (by decide) ?_
        show Steps p.tables e below (T101.setTop (mkF m 27 #[.val (.ref a1), .val (.ref a2), .val (.int (0 : Int32))] [])) _
        refine XS.aloadN X101.here hx rfl (hb hby d1_27) rfl rfl ?_
        show Steps p.tables e below (T101.setTop (mkF m 28 #[.val (.ref a1), .val (.ref a2), .val (.int (0 : Int32))] [(.ref a1)])) _
        refine XS.iloadN X101.here hx rfl (hb hby d1_28) rfl ?_
        show Steps p.tables e below (T101.setTop (mkF m 29 #[.val (.ref a1), .val (.ref a2), .val (.int (0 : Int32))] [(.int (0 : Int32)), (.ref a1)])) _
        refine XS.aloadN X101.here hx rfl (hb hby d1_29) rfl rfl ?_
        show Steps p.tables e below (T101.setTop (mkF m 30 #[.val (.ref a1), .val (.ref a2), .val (.int (0 : Int32))] [(.ref a2), (.int (0 : Int32)), (.ref a1)])) _
        exact k
      obtain ⟨cl107, Ar107, -, S107, M107, -, -⟩ := id V2
      refine EndsQ.go (fun t k => X101.arraylength hx (by rw [e101]; exact Ar107.1) (State.isArrayOf_alike hZ.alike Ar107.2.1) (g := (mkF m 30 #[.val (.ref a1), .val (.ref a2), .val (.int (0 : Int32))] [(.ref a2), (.int (0 : Int32)), (.ref a1)])) rfl rfl (hb hby d1_30) _ k) ?_
      rw [len_of S107 M107]
      show EndsQ _ _ _ _ _ _ _ (T101.setTop (mkF m 31 #[.val (.ref a1), .val (.ref a2), .val (.int (0 : Int32))] [(.int (2 : Int32)), (.int (0 : Int32)), (.ref a1)]))
      refine EndsQ.go (b := T101.setTop (mkF m 40 #[.val (.ref a1), .val (.ref a2), .val (.int (0 : Int32))] [(.int (0 : Int32)), (.ref a2), (.ref a1)])) (fun t k => ?_) ?_
      · show Steps p.tables e below (T101.setTop (mkF m 31 #[.val (.ref a1), .val (.ref a2), .val (.int (0 : Int32))] [(.int (2 : Int32)), (.int (0 : Int32)), (.ref a1)])) _
        refine XS.icmpYes X101.here hx rfl (pc0 := 31) (pc' := 38) rfl (hb hby d1_31) rfl (feq (by decide)).2 (by decide) (by decide) ?_
        show Steps p.tables e below (T101.setTop (mkF m 38 #[.val (.ref a1), .val (.ref a2), .val (.int (0 : Int32))] [(.ref a1)])) _
        refine XS.aloadN X101.here hx rfl (hb hby d1_38) rfl rfl ?_
        show Steps p.tables e below (T101.setTop (mkF m 39 #[.val (.ref a1), .val (.ref a2), .val (.int (0 : Int32))] [(.ref a2), (.ref a1)])) _
        refine XS.iloadN X101.here hx rfl (hb hby d1_39) rfl ?_
        show Steps p.tables e below (T101.setTop (mkF m 40 #[.val (.ref a1), .val (.ref a2), .val (.int (0 : Int32))] [(.int (0 : Int32)), (.ref a2), (.ref a1)])) _
        exact k
      obtain ⟨_, _, ⟨T108, L108, kk108, nn108⟩, -, X108, ⟨Lc108, hQ108, l108, y108, z108⟩, st108⟩ := Jvm.LawKit.callS X101 hx (y := (⟨"java/util/Arrays", "copyOf", "([JI)[J"⟩ : MethodName)) hown (mvT hZ (hw _ (List.mem_of_getElem? (i := 18) rfl))) (mvT hZ (hw _ (List.mem_of_getElem? (i := 19) rfl))) (mvT hZ (hw _ (List.mem_of_getElem? (i := 20) rfl))) (mvT hZ (hw _ (List.mem_of_getElem? (i := 21) rfl))) (by decide) (backOf (W := 1) (rmCp20 l Z a0 hw [] a2 kA w0 w1 h0 n0 Z0 V2) hZ (hw _ (List.mem_of_getElem? (i := 21) rfl)) (hw _ (List.mem_of_getElem? (i := 20) rfl)) (by decide) (by decide)) (g := (mkF m 40 #[.val (.ref a1), .val (.ref a2), .val (.int (0 : Int32))] [(.int (0 : Int32)), (.ref a2), (.ref a1)])) rfl (by rw [hml]; rfl) (argsL := [(.ref a2), (.int (0 : Int32))]) (rest := [(.ref a1)]) (lenOf pd_1 rfl) rfl (by show 2 * 0 + _ ≤ _; exact Nat.le_of_eq rfl) (hb hby d1_40) (fun _ _ => ⟨rfl, e101, (by decide : 0 + 1 ≤ _), (by decide : 0 + 2 ≤ _)⟩)
      dsimp only [Pt.U, Pt.locs, Pt.cells, Pt.slots] at X108 l108 y108 z108 st108 hQ108
      subst l108 y108 z108
      obtain ⟨c108, kc108, rfl, Nq108, Kc108, gc108, gd108, Vc108⟩ := hQ108
      have N108 := Fr.app N0 Nq108
      have f109 : Fld Z T108.heap a1 "com/example/sextant/sextant/ValueSet" "words" "[J" .null := F_words.keep Kc108 nin0
      have f110 : Exa Z T108.heap a1 "com/example/sextant/sextant/ValueSet" := E1.keep Kc108
      have f111 : Arv Z T108.heap a2 kA .long (2 : Int32) [(.long w0), (.long w1)] (.long (0 : Int64)) := V2.keep Kc108 nin0
      have f112 : n0 ≤ T108.heap.size := Nat.le_trans Z0 Kc108.1
      have f113 : Keep h0 T108.heap [a1] := K0.trans Kc108 all0
      have nec108 : a1 ≠ c108 := Nat.ne_of_lt (Nat.lt_of_lt_of_le E1.lt gd108)
      refine EndsQ.go st108 ?_
      show EndsQ _ _ _ _ _ _ _ (T108.setTop (mkF m 43 #[.val (.ref a1), .val (.ref a2), .val (.int (0 : Int32))] [(.ref c108), (.ref a1)]))
      obtain ⟨T114, h114, X114, e114, W114, st114⟩ := putF X108 hx hZ hown (host := "") (Or.inl (hw _ (List.mem_of_getElem? (i := 10) rfl))) Via.refl rfl f109 f110 (Or.inr ⟨(hw _ (List.mem_of_getElem? (i := 11) rfl)), rfl, hnm⟩) (hw _ (List.mem_of_getElem? (i := 2) rfl)) (ty := (.array .long)) (by decide) rfl rfl (g := (mkF m 43 #[.val (.ref a1), .val (.ref a2), .val (.int (0 : Int32))] [(.ref c108), (.ref a1)])) rfl rfl (hb hby d1_43)
      have fw114 : Fld Z h114 a1 "com/example/sextant/sextant/ValueSet" "words" "[J" (.ref c108) := f109.same W114
      have f115 : Exa Z h114 a1 "com/example/sextant/sextant/ValueSet" := f110.wr W114
      have f116 : Arv Z h114 a2 kA .long (2 : Int32) [(.long w0), (.long w1)] (.long (0 : Int64)) := f111.other W114 (Ne.symm hne)
      have f117 : n0 ≤ h114.size := Nat.le_trans f112 (Keep.of_wr W114).1
      have f118 : Keep h0 h114 [a1] := f113.wr W114 (Or.inl (List.mem_of_getElem? (i := 0) rfl))
      have f119 : Arv Z h114 c108 kc108 .long (0 : Int32) [] (.long (0 : Int64)) := Vc108.other W114 (Ne.symm nec108)
      have N114 := Fr.snoc X114 N108 g1
      refine EndsQ.go st114 ?_
      show EndsQ _ _ _ _ _ _ _ (T114.setTop (mkF m 46 #[.val (.ref a1), .val (.ref a2), .val (.int (0 : Int32))] []))
      refine EndsQ.retV X114 hx Bd.notSynchronized Bd.returns (hb hby d1_46) (by decide) (by decide) ?_
      show QI2 Z a1 a2 kA w0 w1 h0 n0 (none) T114.heap _
      rw [e114]
      exact ⟨c108, kc108, _, _, rfl, N114, f118, f115, fw114, f119, (Or.inr (Or.inr ⟨hc18_104, hc18_106, rfl, rfl⟩))⟩
    · refine EndsQ.go (b := T101.setTop (mkF m 27 #[.val (.ref a1), .val (.ref a2), .val (.int (1 : Int32))] [])) (fun t k => ?_) ?_
      · show Steps p.tables e below (T101.setTop (mkF m 18 #[.val (.ref a1), .val (.ref a2), .val (.int (1 : Int32))] [(.int (lcmpW w0 (0 : Int64)))])) _
        refine XS.ifYes X101.here hx rfl (pc0 := 18) (pc' := 27) rfl (hb hby d1_18) rfl ((if0 _ _).trans (feq (fun q => hc18_106 ((lw_eq w0 (0 : Int64)).mp q))).2) (by decide) (by decide) ?_
        show Steps p.tables e below (T101.setTop (mkF m 27 #[.val (.ref a1), .val (.ref a2), .val (.int (1 : Int32))] [])) _
        exact k
      refine EndsQ.go (b := T101.setTop (mkF m 30 #[.val (.ref a1), .val (.ref a2), .val (.int (1 : Int32))] [(.ref a2), (.int (1 : Int32)), (.ref a1)])) (fun t k => ?_) ?_
      · show Steps p.tables e below (T101.setTop (mkF m 27 #[.val (.ref a1), .val (.ref a2), .val (.int (1 : Int32))] [])) _
        refine XS.aloadN X101.here hx rfl (hb hby d1_27) rfl rfl ?_
        show Steps p.tables e below (T101.setTop (mkF m 28 #[.val (.ref a1), .val (.ref a2), .val (.int (1 : Int32))] [(.ref a1)])) _
        refine XS.iloadN X101.here hx rfl (hb hby d1_28) rfl ?_
        show Steps p.tables e below (T101.setTop (mkF m 29 #[.val (.ref a1), .val (.ref a2), .val (.int (1 : Int32))] [(.int (1 : Int32)), (.ref a1)])) _
        refine XS.aloadN X101.here hx rfl (hb hby d1_29) rfl rfl ?_
        show Steps p.tables e below (T101.setTop (mkF m 30 #[.val (.ref a1), .val (.ref a2), .val (.int (1 : Int32))] [(.ref a2), (.int (1 : Int32)), (.ref a1)])) _
        exact k
      obtain ⟨cl120, Ar120, -, S120, M120, -, -⟩ := id V2
      refine EndsQ.go (fun t k => X101.arraylength hx (by rw [e101]; exact Ar120.1) (State.isArrayOf_alike hZ.alike Ar120.2.1) (g := (mkF m 30 #[.val (.ref a1), .val (.ref a2), .val (.int (1 : Int32))] [(.ref a2), (.int (1 : Int32)), (.ref a1)])) rfl rfl (hb hby d1_30) _ k) ?_
      rw [len_of S120 M120]
      show EndsQ _ _ _ _ _ _ _ (T101.setTop (mkF m 31 #[.val (.ref a1), .val (.ref a2), .val (.int (1 : Int32))] [(.int (2 : Int32)), (.int (1 : Int32)), (.ref a1)]))
      refine EndsQ.go (b := T101.setTop (mkF m 40 #[.val (.ref a1), .val (.ref a2), .val (.int (1 : Int32))] [(.int (1 : Int32)), (.ref a2), (.ref a1)])) (fun t k => ?_) ?_
      · show Steps p.tables e below (T101.setTop (mkF m 31 #[.val (.ref a1), .val (.ref a2), .val (.int (1 : Int32))] [(.int (2 : Int32)), (.int (1 : Int32)), (.ref a1)])) _
        refine XS.icmpYes X101.here hx rfl (pc0 := 31) (pc' := 38) rfl (hb hby d1_31) rfl (feq (by decide)).2 (by decide) (by decide) ?_
        show Steps p.tables e below (T101.setTop (mkF m 38 #[.val (.ref a1), .val (.ref a2), .val (.int (1 : Int32))] [(.ref a1)])) _
        refine XS.aloadN X101.here hx rfl (hb hby d1_38) rfl rfl ?_
        show Steps p.tables e below (T101.setTop (mkF m 39 #[.val (.ref a1), .val (.ref a2), .val (.int (1 : Int32))] [(.ref a2), (.ref a1)])) _
        refine XS.iloadN X101.here hx rfl (hb hby d1_39) rfl ?_
        show Steps p.tables e below (T101.setTop (mkF m 40 #[.val (.ref a1), .val (.ref a2), .val (.int (1 : Int32))] [(.int (1 : Int32)), (.ref a2), (.ref a1)])) _
        exact k
      obtain ⟨_, _, ⟨T121, L121, kk121, nn121⟩, -, X121, ⟨Lc121, hQ121, l121, y121, z121⟩, st121⟩ := Jvm.LawKit.callS X101 hx (y := (⟨"java/util/Arrays", "copyOf", "([JI)[J"⟩ : MethodName)) hown (mvT hZ (hw _ (List.mem_of_getElem? (i := 18) rfl))) (mvT hZ (hw _ (List.mem_of_getElem? (i := 19) rfl))) (mvT hZ (hw _ (List.mem_of_getElem? (i := 20) rfl))) (mvT hZ (hw _ (List.mem_of_getElem? (i := 21) rfl))) (by decide) (backOf (W := 1) (rmCp21 l Z a0 hw [] a2 kA w0 w1 h0 n0 Z0 V2) hZ (hw _ (List.mem_of_getElem? (i := 21) rfl)) (hw _ (List.mem_of_getElem? (i := 20) rfl)) (by decide) (by decide)) (g := (mkF m 40 #[.val (.ref a1), .val (.ref a2), .val (.int (1 : Int32))] [(.int (1 : Int32)), (.ref a2), (.ref a1)])) rfl (by rw [hml]; rfl) (argsL := [(.ref a2), (.int (1 : Int32))]) (rest := [(.ref a1)]) (lenOf pd_1 rfl) rfl (by show 2 * 0 + _ ≤ _; exact Nat.le_of_eq rfl) (hb hby d1_40) (fun _ _ => ⟨rfl, e101, (by decide : 0 + 1 ≤ _), (by decide : 0 + 2 ≤ _)⟩)
      dsimp only [Pt.U, Pt.locs, Pt.cells, Pt.slots] at X121 l121 y121 z121 st121 hQ121
      subst l121 y121 z121
      obtain ⟨c121, kc121, rfl, Nq121, Kc121, gc121, gd121, Vc121⟩ := hQ121
      have N121 := Fr.app N0 Nq121
      have f122 : Fld Z T121.heap a1 "com/example/sextant/sextant/ValueSet" "words" "[J" .null := F_words.keep Kc121 nin0
      have f123 : Exa Z T121.heap a1 "com/example/sextant/sextant/ValueSet" := E1.keep Kc121
      have f124 : Arv Z T121.heap a2 kA .long (2 : Int32) [(.long w0), (.long w1)] (.long (0 : Int64)) := V2.keep Kc121 nin0
      have f125 : n0 ≤ T121.heap.size := Nat.le_trans Z0 Kc121.1
      have f126 : Keep h0 T121.heap [a1] := K0.trans Kc121 all0
      have nec121 : a1 ≠ c121 := Nat.ne_of_lt (Nat.lt_of_lt_of_le E1.lt gd121)
      refine EndsQ.go st121 ?_
      show EndsQ _ _ _ _ _ _ _ (T121.setTop (mkF m 43 #[.val (.ref a1), .val (.ref a2), .val (.int (1 : Int32))] [(.ref c121), (.ref a1)]))
      obtain ⟨T127, h127, X127, e127, W127, st127⟩ := putF X121 hx hZ hown (host := "") (Or.inl (hw _ (List.mem_of_getElem? (i := 10) rfl))) Via.refl rfl f122 f123 (Or.inr ⟨(hw _ (List.mem_of_getElem? (i := 11) rfl)), rfl, hnm⟩) (hw _ (List.mem_of_getElem? (i := 2) rfl)) (ty := (.array .long)) (by decide) rfl rfl (g := (mkF m 43 #[.val (.ref a1), .val (.ref a2), .val (.int (1 : Int32))] [(.ref c121), (.ref a1)])) rfl rfl (hb hby d1_43)
      have fw127 : Fld Z h127 a1 "com/example/sextant/sextant/ValueSet" "words" "[J" (.ref c121) := f122.same W127
      have f128 : Exa Z h127 a1 "com/example/sextant/sextant/ValueSet" := f123.wr W127
      have f129 : Arv Z h127 a2 kA .long (2 : Int32) [(.long w0), (.long w1)] (.long (0 : Int64)) := f124.other W127 (Ne.symm hne)
      have f130 : n0 ≤ h127.size := Nat.le_trans f125 (Keep.of_wr W127).1
      have f131 : Keep h0 h127 [a1] := f126.wr W127 (Or.inl (List.mem_of_getElem? (i := 0) rfl))
      have f132 : Arv Z h127 c121 kc121 .long (1 : Int32) [(.long w0)] (.long (0 : Int64)) := Vc121.other W127 (Ne.symm nec121)
      have N127 := Fr.snoc X127 N121 g1
      refine EndsQ.go st127 ?_
      show EndsQ _ _ _ _ _ _ _ (T127.setTop (mkF m 46 #[.val (.ref a1), .val (.ref a2), .val (.int (1 : Int32))] []))
      refine EndsQ.retV X127 hx Bd.notSynchronized Bd.returns (hb hby d1_46) (by decide) (by decide) ?_
      show QI2 Z a1 a2 kA w0 w1 h0 n0 (none) T127.heap _
      rw [e127]
      exact ⟨c121, kc121, _, _, rfl, N127, f131, f128, fw127, f132, (Or.inr (Or.inl ⟨hc18_104, rfl, rfl⟩))⟩
  · refine EndsQ.go (b := T101.setTop (mkF m 27 #[.val (.ref a1), .val (.ref a2), .val (.int (2 : Int32))] [])) (fun t k => ?_) ?_
    · show Steps p.tables e below (T101.setTop (mkF m 18 #[.val (.ref a1), .val (.ref a2), .val (.int (2 : Int32))] [(.int (lcmpW w1 (0 : Int64)))])) _
      refine XS.ifYes X101.here hx rfl (pc0 := 18) (pc' := 27) rfl (hb hby d1_18) rfl ((if0 _ _).trans (feq (fun q => hc18_104 ((lw_eq w1 (0 : Int64)).mp q))).2) (by decide) (by decide) ?_
      show Steps p.tables e below (T101.setTop (mkF m 27 #[.val (.ref a1), .val (.ref a2), .val (.int (2 : Int32))] [])) _
      exact k
    refine EndsQ.go (b := T101.setTop (mkF m 30 #[.val (.ref a1), .val (.ref a2), .val (.int (2 : Int32))] [(.ref a2), (.int (2 : Int32)), (.ref a1)])) (fun t k => ?_) ?_
    · show Steps p.tables e below (T101.setTop (mkF m 27 #[.val (.ref a1), .val (.ref a2), .val (.int (2 : Int32))] [])) _
      refine XS.aloadN X101.here hx rfl (hb hby d1_27) rfl rfl ?_
      show Steps p.tables e below (T101.setTop (mkF m 28 #[.val (.ref a1), .val (.ref a2), .val (.int (2 : Int32))] [(.ref a1)])) _
      refine XS.iloadN X101.here hx rfl (hb hby d1_28) rfl ?_
      show Steps p.tables e below (T101.setTop (mkF m 29 #[.val (.ref a1), .val (.ref a2), .val (.int (2 : Int32))] [(.int (2 : Int32)), (.ref a1)])) _
      refine XS.aloadN X101.here hx rfl (hb hby d1_29) rfl rfl ?_
      show Steps p.tables e below (T101.setTop (mkF m 30 #[.val (.ref a1), .val (.ref a2), .val (.int (2 : Int32))] [(.ref a2), (.int (2 : Int32)), (.ref a1)])) _
      exact k
    obtain ⟨cl133, Ar133, -, S133, M133, -, -⟩ := id V2
    refine EndsQ.go (fun t k => X101.arraylength hx (by rw [e101]; exact Ar133.1) (State.isArrayOf_alike hZ.alike Ar133.2.1) (g := (mkF m 30 #[.val (.ref a1), .val (.ref a2), .val (.int (2 : Int32))] [(.ref a2), (.int (2 : Int32)), (.ref a1)])) rfl rfl (hb hby d1_30) _ k) ?_
    rw [len_of S133 M133]
    show EndsQ _ _ _ _ _ _ _ (T101.setTop (mkF m 31 #[.val (.ref a1), .val (.ref a2), .val (.int (2 : Int32))] [(.int (2 : Int32)), (.int (2 : Int32)), (.ref a1)]))
    refine EndsQ.go (b := T101.setTop (mkF m 43 #[.val (.ref a1), .val (.ref a2), .val (.int (2 : Int32))] [(.ref a2), (.ref a1)])) (fun t k => ?_) ?_
    · show Steps p.tables e below (T101.setTop (mkF m 31 #[.val (.ref a1), .val (.ref a2), .val (.int (2 : Int32))] [(.int (2 : Int32)), (.int (2 : Int32)), (.ref a1)])) _
      refine XS.icmpNo X101.here hx rfl (hb hby d1_31) rfl (teq (by decide)).2 ?_
      show Steps p.tables e below (T101.setTop (mkF m 34 #[.val (.ref a1), .val (.ref a2), .val (.int (2 : Int32))] [(.ref a1)])) _
      refine XS.aloadN X101.here hx rfl (hb hby d1_34) rfl rfl ?_
      show Steps p.tables e below (T101.setTop (mkF m 35 #[.val (.ref a1), .val (.ref a2), .val (.int (2 : Int32))] [(.ref a2), (.ref a1)])) _
      refine XS.goto X101.here hx rfl (pc0 := 35) (pc' := 43) rfl (hb hby d1_35) (by decide) (by decide) ?_
      show Steps p.tables e below (T101.setTop (mkF m 43 #[.val (.ref a1), .val (.ref a2), .val (.int (2 : Int32))] [(.ref a2), (.ref a1)])) _
      exact k
    obtain ⟨T134, h134, X134, e134, W134, st134⟩ := putF X101 hx hZ hown (host := "") (Or.inl (hw _ (List.mem_of_getElem? (i := 10) rfl))) Via.refl e101 F_words E1 (Or.inr ⟨(hw _ (List.mem_of_getElem? (i := 11) rfl)), rfl, hnm⟩) (hw _ (List.mem_of_getElem? (i := 2) rfl)) (ty := (.array .long)) (by decide) rfl rfl (g := (mkF m 43 #[.val (.ref a1), .val (.ref a2), .val (.int (2 : Int32))] [(.ref a2), (.ref a1)])) rfl rfl (hb hby d1_43)
    have fw134 : Fld Z h134 a1 "com/example/sextant/sextant/ValueSet" "words" "[J" (.ref a2) := F_words.same W134
    have f135 : Exa Z h134 a1 "com/example/sextant/sextant/ValueSet" := E1.wr W134
    have f136 : Arv Z h134 a2 kA .long (2 : Int32) [(.long w0), (.long w1)] (.long (0 : Int64)) := V2.other W134 (Ne.symm hne)
    have f137 : n0 ≤ h134.size := Nat.le_trans Z0 (Keep.of_wr W134).1
    have f138 : Keep h0 h134 [a1] := K0.wr W134 (Or.inl (List.mem_of_getElem? (i := 0) rfl))
    have N134 := Fr.snoc X134 N0 g1
    refine EndsQ.go st134 ?_
    show EndsQ _ _ _ _ _ _ _ (T134.setTop (mkF m 46 #[.val (.ref a1), .val (.ref a2), .val (.int (2 : Int32))] []))
    refine EndsQ.retV X134 hx Bd.notSynchronized Bd.returns (hb hby d1_46) (by decide) (by decide) ?_
    show QI2 Z a1 a2 kA w0 w1 h0 n0 (none) T134.heap _
    rw [e134]
    exact ⟨a2, kA, _, _, rfl, N134, f138, f135, fw134, f136, (Or.inl ⟨rfl, rfl⟩)⟩
theorem ef_I3 (m : MethodId) (x0 : Addr) (x1 : Addr) : entryFrame m #[(.ref x0), (.ref x1)] 3 = mkF m 0 #[.val (.ref x0), .val (.ref x1), .unset] [] := by first | (simp [entryFrame, mkF, argsToLocals, Value.category]; done) | rfl
def QI3 (Z : State) (a1 : Addr) (a2 : Addr) (kA : ClassId) (w0 : Int64) (w1 : Int64) (w2 : Int64) (h0 : Heap) (n0 : Nat) (v : Option Value) (h : Heap) (L : List Loc) : Prop := ∃ (b : Addr) (kB : ClassId) (m : Int32) (vs : List Value), v = none ∧ Fr n0 L ∧ Keep h0 h [a1] ∧ Exa Z h a1 "com/example/sextant/sextant/ValueSet" ∧ Fld Z h a1 "com/example/sextant/sextant/ValueSet" "words" "[J" (.ref b) ∧ Arv Z h b kB .long m vs (.long (0 : Int64)) ∧ ((m = (3 : Int32) ∧ vs = [(.long w0), (.long w1), (.long w2)]) ∨ (w2 = (0 : Int64) ∧ m = (2 : Int32) ∧ vs = [(.long w0), (.long w1)]) ∨ (w2 = (0 : Int64) ∧ w1 = (0 : Int64) ∧ m = (1 : Int32) ∧ vs = [(.long w0)]) ∨ (w2 = (0 : Int64) ∧ w1 = (0 : Int64) ∧ w0 = (0 : Int64) ∧ m = (0 : Int32) ∧ vs = []))
set_option maxRecDepth 65536 in
set_option maxHeartbeats 40000000 in
theorem rmI3 (l : Launch) (Z : State) (a0 : Array Value) (hw : ∀ d ∈ tables_1, d.before a0 Z = true) (ws : List Jvm.Cond) (a1 : Addr) (a2 : Addr) (kA : ClassId) (w0 : Int64) (w1 : Int64) (w2 : Int64) (h0 : Heap) (n0 : Nat) (Z0 : n0 ≤ h0.size) (F_words : Fld Z h0 a1 "com/example/sextant/sextant/ValueSet" "words" "[J" .null) (E1 : Exa Z h0 a1 "com/example/sextant/sextant/ValueSet") (g1 : n0 ≤ a1) (V2 : Arv Z h0 a2 kA .long (3 : Int32) [(.long w0), (.long w1), (.long w2)] (.long (0 : Int64))) (hne : a1 ≠ a2) :
    MetFree l (⟨"com/example/sextant/sextant/ValueSet", "<init>", "([J)V"⟩ : MethodName) (head1 (Jvm.Cond.code (⟨"com/example/sextant/sextant/ValueSet", "<init>", "([J)V"⟩ : MethodName) prog_21_method_1_code 3 none :: ws) ({ frames := 2, cells := 1, slots := 2, locals := 60 } : Room)) (fun a U => a = #[(.ref a1), (.ref a2)] ∧ Z.Warmed39 U.vm ∧ U.heap = h0) (fun _ _ _ _ _ => True) (fun _ U o U' => ∃ v L, o = .returned v ∧ QI3 Z a1 a2 kA w0 w1 w2 h0 n0 v U'.heap L ∧ FrameEnd U o U' L ({ frames := 2, cells := 1, slots := 2, locals := 60 } : Room).cells ({ frames := 2, cells := 1, slots := 2, locals := 60 } : Room).slots) := by
  refine MetFree.of_bodySF (plainFor_of_name pn_1) hisR ?_
  intro p e s m args below meth c s₁ Bd hml0 hP hK
  obtain ⟨rfl, hZ, hh⟩ := hP
  have hx := Bd.exec
  have hby := Bd.bytes
  have hml : c.maxLocals = 3 := hml0
  have hown : s.vm.findClass "com/example/sextant/sextant/ValueSet" = some m.cls := findClass_of_methodNamed Bd.named
  have hnm := (name_of_methodNamed Bd.named Bd.method).1
  have X0 : Stand p l e ({ frames := 2, cells := 1, slots := 2, locals := 60 } : Room) s m #[(.ref a1), (.ref a2)] below meth c s₁ [] 0 0 := Stand.of_body Bd
  have e0 : s₁.heap = h0 := by rw [← hh, Bd.state]; rfl
  have N0 := Fr.nil n0
  show EndsQ p.tables e below s (fun v h L => QI3 Z a1 a2 kA w0 w1 w2 h0 n0 v h L) ({ frames := 2, cells := 1, slots := 2, locals := 60 } : Room).cells ({ frames := 2, cells := 1, slots := 2, locals := 60 } : Room).slots _
  refine EndsQ.go (b := s₁.setTop (mkF m 0 #[.val (.ref a1), .val (.ref a2), .unset] [])) (fun t k => castTop (ef_I3 m a1 a2) k) ?_
  have K0 : Keep h0 h0 [a1] := Keep.refl _ _
  refine EndsQ.go (b := s₁.setTop (mkF m 1 #[.val (.ref a1), .val (.ref a2), .unset] [(.ref a1)])) (fun t k => ?_) ?_
  · show Steps p.tables e below (s₁.setTop (mkF m 0 #[.val (.ref a1), .val (.ref a2), .unset] [])) _
    refine XS.aloadN X0.here hx rfl (hb hby d1_0) rfl rfl ?_
    show Steps p.tables e below (s₁.setTop (mkF m 1 #[.val (.ref a1), .val (.ref a2), .unset] [(.ref a1)])) _
    exact k
  obtain ⟨T101, X101, e101, st101⟩ := initO X0 hx hZ hown (hw _ (List.mem_of_getElem? (i := 7) rfl)) (hw _ (List.mem_of_getElem? (i := 8) rfl)) (hw _ (List.mem_of_getElem? (i := 9) rfl)) e0 (g := (mkF m 1 #[.val (.ref a1), .val (.ref a2), .unset] [(.ref a1)])) rfl (by rw [hml]; rfl) rfl (hb hby d1_1) (by decide) (W := 0) (by show 2 * 0 + _ ≤ _; exact Nat.le_of_eq rfl) (by decide)
  refine EndsQ.go st101 ?_
  show EndsQ _ _ _ _ _ _ _ (T101.setTop (mkF m 4 #[.val (.ref a1), .val (.ref a2), .unset] []))
  refine EndsQ.go (b := T101.setTop (mkF m 5 #[.val (.ref a1), .val (.ref a2), .unset] [(.ref a2)])) (fun t k => ?_) ?_
  · show Steps p.tables e below (T101.setTop (mkF m 4 #[.val (.ref a1), .val (.ref a2), .unset] [])) _
    refine XS.aloadN X101.here hx rfl (hb hby d1_4) rfl rfl ?_
    show Steps p.tables e below (T101.setTop (mkF m 5 #[.val (.ref a1), .val (.ref a2), .unset] [(.ref a2)])) _
    exact k
  obtain ⟨cl102, Ar102, -, S102, M102, -, -⟩ := id V2
  refine EndsQ.go (fun t k => X101.arraylength hx (by rw [e101]; exact Ar102.1) (State.isArrayOf_alike hZ.alike Ar102.2.1) (g := (mkF m 5 #[.val (.ref a1), .val (.ref a2), .unset] [(.ref a2)])) rfl rfl (hb hby d1_5) _ k) ?_
  rw [len_of S102 M102]
  show EndsQ _ _ _ _ _ _ _ (T101.setTop (mkF m 6 #[.val (.ref a1), .val (.ref a2), .unset] [(.int (3 : Int32))]))
  refine EndsQ.go (b := T101.setTop (mkF m 15 #[.val (.ref a1), .val (.ref a2), .val (.int (3 : Int32))] [(.int (2 : Int32)), (.ref a2)])) (fun t k => ?_) ?_
  · show Steps p.tables e below (T101.setTop (mkF m 6 #[.val (.ref a1), .val (.ref a2), .unset] [(.int (3 : Int32))])) _
    refine XS.istoreN X101.here hx rfl (hb hby d1_6) rfl (l' := #[.val (.ref a1), .val (.ref a2), .val (.int (3 : Int32))]) rfl ?_
    show Steps p.tables e below (T101.setTop (mkF m 7 #[.val (.ref a1), .val (.ref a2), .val (.int (3 : Int32))] [])) _
    refine XS.iloadN X101.here hx rfl (hb hby d1_7) rfl ?_
    show Steps p.tables e below (T101.setTop (mkF m 8 #[.val (.ref a1), .val (.ref a2), .val (.int (3 : Int32))] [(.int (3 : Int32))])) _
    refine XS.ifNo X101.here hx rfl (hb hby d1_8) rfl ((if0 _ _).trans (tlt (by decide)).2.2.2) ?_
    show Steps p.tables e below (T101.setTop (mkF m 11 #[.val (.ref a1), .val (.ref a2), .val (.int (3 : Int32))] [])) _
    refine XS.aloadN X101.here hx rfl (hb hby d1_11) rfl rfl ?_
    show Steps p.tables e below (T101.setTop (mkF m 12 #[.val (.ref a1), .val (.ref a2), .val (.int (3 : Int32))] [(.ref a2)])) _
    refine XS.iloadN X101.here hx rfl (hb hby d1_12) rfl ?_
    show Steps p.tables e below (T101.setTop (mkF m 13 #[.val (.ref a1), .val (.ref a2), .val (.int (3 : Int32))] [(.int (3 : Int32)), (.ref a2)])) _
    refine XS.iconst X101.here hx rfl (hb hby d1_13) ?_
    show Steps p.tables e below (T101.setTop (mkF m 14 #[.val (.ref a1), .val (.ref a2), .val (.int (3 : Int32))] [(.int (1 : Int32)), (.int (3 : Int32)), (.ref a2)])) _
    refine XS.isub X101.here hx rfl (hb hby d1_14) rfl ?_
    show Steps p.tables e below (T101.setTop (mkF m 15 #[.val (.ref a1), .val (.ref a2), .val (.int (3 : Int32))] [(.int ((3 : Int32) - (1 : Int32))), (.ref a2)])) _
    rw [(by decide : ((3 : Int32) - (1 : Int32)) = (2 : Int32))]
    show Steps p.tables e below (T101.setTop (mkF m 15 #[.val (.ref a1), .val (.ref a2), .val (.int (3 : Int32))] [(.int (2 : Int32)), (.ref a2)])) _
    exact k
  obtain ⟨cl103, Ar103, q103, S103, M103, H103, G103⟩ := id V2
  have hin103 : ¬ ((2 : Int32) < 0 ∨ cl103.slots.size ≤ ((2 : Int32)).toNatClampNeg) := inb_of S103 ⟨by decide, by decide⟩
  have hat103 : cl103.slots[((2 : Int32)).toNatClampNeg]? = some (.long w2) := Has.at H103 hin103 rfl
  refine EndsQ.go (fun t k => X101.laload hx (j := (2 : Int32)) (v := (.long w2)) (by rw [e101]; exact Ar103.1) (State.isArrayOf_alike hZ.alike Ar103.2.1) Ar103.2.2 hin103 hat103 (g := (mkF m 15 #[.val (.ref a1), .val (.ref a2), .val (.int (3 : Int32))] [(.int (2 : Int32)), (.ref a2)])) rfl rfl (hb hby d1_15) _ k) ?_
  show EndsQ _ _ _ _ _ _ _ (T101.setTop (mkF m 16 #[.val (.ref a1), .val (.ref a2), .val (.int (3 : Int32))] [(.long w2)]))
  refine EndsQ.go (b := T101.setTop (mkF m 18 #[.val (.ref a1), .val (.ref a2), .val (.int (3 : Int32))] [(.int (lcmpW w2 (0 : Int64)))])) (fun t k => ?_) ?_
  · show Steps p.tables e below (T101.setTop (mkF m 16 #[.val (.ref a1), .val (.ref a2), .val (.int (3 : Int32))] [(.long w2)])) _
    refine XS.lconst X101.here hx rfl (hb hby d1_16) ?_
    show Steps p.tables e below (T101.setTop (mkF m 17 #[.val (.ref a1), .val (.ref a2), .val (.int (3 : Int32))] [(.long (0 : Int64)), (.long w2)])) _
    refine XS.lcmp X101.here hx rfl (hb hby d1_17) rfl ?_
    show Steps p.tables e below (T101.setTop (mkF m 18 #[.val (.ref a1), .val (.ref a2), .val (.int (3 : Int32))] [(.int (lcmpW w2 (0 : Int64)))])) _
    exact k
  by_cases hc18_104 : w2 = (0 : Int64)
  · refine EndsQ.go (b := T101.setTop (mkF m 21 #[.val (.ref a1), .val (.ref a2), .val (.int (3 : Int32))] [])) (fun t k => ?_) ?_
    · show Steps p.tables e below (T101.setTop (mkF m 18 #[.val (.ref a1), .val (.ref a2), .val (.int (3 : Int32))] [(.int (lcmpW w2 (0 : Int64)))])) _
      refine XS.ifNo X101.here hx rfl (hb hby d1_18) rfl ((if0 _ _).trans (teq ((lw_eq w2 (0 : Int64)).mpr hc18_104)).2) ?_
      show Steps p.tables e below (T101.setTop (mkF m 21 #[.val (.ref a1), .val (.ref a2), .val (.int (3 : Int32))] [])) _
      exact k
    refine EndsQ.go (b := T101.setTop (mkF m 15 #[.val (.ref a1), .val (.ref a2), .val (.int (2 : Int32))] [(.int (1 : Int32)), (.ref a2)])) (fun t k => ?_) ?_
    · show Steps p.tables e below (T101.setTop (mkF m 21 #[.val (.ref a1), .val (.ref a2), .val (.int (3 : Int32))] [])) _
      refine XS.iinc X101.here hx rfl (hb hby d1_21) rfl (l' := #[.val (.ref a1), .val (.ref a2), .val (.int ((3 : Int32) + Int32.ofInt (-1)))]) rfl ?_
      show Steps p.tables e below (T101.setTop (mkF m 24 #[.val (.ref a1), .val (.ref a2), .val (.int ((3 : Int32) + Int32.ofInt (-1)))] [])) _
      rw [(by decide : ((3 : Int32) + Int32.ofInt (-1)) = (2 : Int32))]
      show Steps p.tables e below (T101.setTop (mkF m 24 #[.val (.ref a1), .val (.ref a2), .val (.int (2 : Int32))] [])) _
      refine XS.goto X101.here hx rfl (pc0 := 24) (pc' := 7) rfl (hb hby d1_24) (by decide) (by decide) ?_
      show Steps p.tables e below (T101.setTop (mkF m 7 #[.val (.ref a1), .val (.ref a2), .val (.int (2 : Int32))] [])) _
      refine XS.iloadN X101.here hx rfl (hb hby d1_7) rfl ?_
      show Steps p.tables e below (T101.setTop (mkF m 8 #[.val (.ref a1), .val (.ref a2), .val (.int (2 : Int32))] [(.int (2 : Int32))])) _
      refine XS.ifNo X101.here hx rfl (hb hby d1_8) rfl ((if0 _ _).trans (tlt (by decide)).2.2.2) ?_
      show Steps p.tables e below (T101.setTop (mkF m 11 #[.val (.ref a1), .val (.ref a2), .val (.int (2 : Int32))] [])) _
      refine XS.aloadN X101.here hx rfl (hb hby d1_11) rfl rfl ?_
      show Steps p.tables e below (T101.setTop (mkF m 12 #[.val (.ref a1), .val (.ref a2), .val (.int (2 : Int32))] [(.ref a2)])) _
      refine XS.iloadN X101.here hx rfl (hb hby d1_12) rfl ?_
      show Steps p.tables e below (T101.setTop (mkF m 13 #[.val (.ref a1), .val (.ref a2), .val (.int (2 : Int32))] [(.int (2 : Int32)), (.ref a2)])) _
      refine XS.iconst X101.here hx rfl (hb hby d1_13) ?_
      show Steps p.tables e below (T101.setTop (mkF m 14 #[.val (.ref a1), .val (.ref a2), .val (.int (2 : Int32))] [(.int (1 : Int32)), (.int (2 : Int32)), (.ref a2)])) _
      refine XS.isub X101.here hx rfl (hb hby d1_14) rfl ?_
      show Steps p.tables e below (T101.setTop (mkF m 15 #[.val (.ref a1), .val (.ref a2), .val (.int (2 : Int32))] [(.int ((2 : Int32) - (1 : Int32))), (.ref a2)])) _
      rw [(by decide : ((2 : Int32) - (1 : Int32)) = (1 : Int32))]
      show Steps p.tables e below (T101.setTop (mkF m 15 #[.val (.ref a1), .val (.ref a2), .val (.int (2 : Int32))] [(.int (1 : Int32)), (.ref a2)])) _
      exact k
    obtain ⟨cl105, Ar105, q105, S105, M105, H105, G105⟩ := id V2
    have hin105 : ¬ ((1 : Int32) < 0 ∨ cl105.slots.size ≤ ((1 : Int32)).toNatClampNeg) := inb_of S105 ⟨by decide, by decide⟩
    have hat105 : cl105.slots[((1 : Int32)).toNatClampNeg]? = some (.long w1) := Has.at H105 hin105 rfl
    refine EndsQ.go (fun t k => X101.laload hx (j := (1 : Int32)) (v := (.long w1)) (by rw [e101]; exact Ar105.1) (State.isArrayOf_alike hZ.alike Ar105.2.1) Ar105.2.2 hin105 hat105 (g := (mkF m 15 #[.val (.ref a1), .val (.ref a2), .val (.int (2 : Int32))] [(.int (1 : Int32)), (.ref a2)])) rfl rfl (hb hby d1_15) _ k) ?_
    show EndsQ _ _ _ _ _ _ _ (T101.setTop (mkF m 16 #[.val (.ref a1), .val (.ref a2), .val (.int (2 : Int32))] [(.long w1)]))
    refine EndsQ.go (b := T101.setTop (mkF m 18 #[.val (.ref a1), .val (.ref a2), .val (.int (2 : Int32))] [(.int (lcmpW w1 (0 : Int64)))])) (fun t k => ?_) ?_
    · show Steps p.tables e below (T101.setTop (mkF m 16 #[.val (.ref a1), .val (.ref a2), .val (.int (2 : Int32))] [(.long w1)])) _
      refine XS.lconst X101.here hx rfl (hb hby d1_16) ?_
      show Steps p.tables e below (T101.setTop (mkF m 17 #[.val (.ref a1), .val (.ref a2), .val (.int (2 : Int32))] [(.long (0 : Int64)), (.long w1)])) _
      refine XS.lcmp X101.here hx rfl (hb hby d1_17) rfl ?_
      show Steps p.tables e below (T101.setTop (mkF m 18 #[.val (.ref a1), .val (.ref a2), .val (.int (2 : Int32))] [(.int (lcmpW w1 (0 : Int64)))])) _
      exact k
    by_cases hc18_106 : w1 = (0 : Int64)
    · refine EndsQ.go (b := T101.setTop (mkF m 21 #[.val (.ref a1), .val (.ref a2), .val (.int (2 : Int32))] [])) (fun t k => ?_) ?_
      · show Steps p.tables e below (T101.setTop (mkF m 18 #[.val (.ref a1), .val (.ref a2), .val (.int (2 : Int32))] [(.int (lcmpW w1 (0 : Int64)))])) _
        refine XS.ifNo X101.here hx rfl (hb hby d1_18) rfl ((if0 _ _).trans (teq ((lw_eq w1 (0 : Int64)).mpr hc18_106)).2) ?_
        show Steps p.tables e below (T101.setTop (mkF m 21 #[.val (.ref a1), .val (.ref a2), .val (.int (2 : Int32))] [])) _
        exact k
      refine EndsQ.go (b := T101.setTop (mkF m 15 #[.val (.ref a1), .val (.ref a2), .val (.int (1 : Int32))] [(.int (0 : Int32)), (.ref a2)])) (fun t k => ?_) ?_
      · show Steps p.tables e below (T101.setTop (mkF m 21 #[.val (.ref a1), .val (.ref a2), .val (.int (2 : Int32))] [])) _
        refine XS.iinc X101.here hx rfl (hb hby d1_21) rfl (l' := #[.val (.ref a1), .val (.ref a2), .val (.int ((2 : Int32) + Int32.ofInt (-1)))]) rfl ?_
        show Steps p.tables e below (T101.setTop (mkF m 24 #[.val (.ref a1), .val (.ref a2), .val (.int ((2 : Int32) + Int32.ofInt (-1)))] [])) _
        rw [(by decide : ((2 : Int32) + Int32.ofInt (-1)) = (1 : Int32))]
        show Steps p.tables e below (T101.setTop (mkF m 24 #[.val (.ref a1), .val (.ref a2), .val (.int (1 : Int32))] [])) _
        refine XS.goto X101.here hx rfl (pc0 := 24) (pc' := 7) rfl (hb hby d1_24) (by decide) (by decide) ?_
        show Steps p.tables e below (T101.setTop (mkF m 7 #[.val (.ref a1), .val (.ref a2), .val (.int (1 : Int32))] [])) _
        refine XS.iloadN X101.here hx rfl (hb hby d1_7) rfl ?_
        show Steps p.tables e below (T101.setTop (mkF m 8 #[.val (.ref a1), .val (.ref a2), .val (.int (1 : Int32))] [(.int (1 : Int32))])) _
        refine XS.ifNo X101.here hx rfl (hb hby d1_8) rfl ((if0 _ _).trans (tlt (by decide)).2.2.2) ?_
        show Steps p.tables e below (T101.setTop (mkF m 11 #[.val (.ref a1), .val (.ref a2), .val (.int (1 : Int32))] [])) _
        refine XS.aloadN X101.here hx rfl (hb hby d1_11) rfl rfl ?_
        show Steps p.tables e below (T101.setTop (mkF m 12 #[.val (.ref a1), .val (.ref a2), .val (.int (1 : Int32))] [(.ref a2)])) _
        refine XS.iloadN X101.here hx rfl (hb hby d1_12) rfl ?_
        show Steps p.tables e below (T101.setTop (mkF m 13 #[.val (.ref a1), .val (.ref a2), .val (.int (1 : Int32))] [(.int (1 : Int32)), (.ref a2)])) _
        refine XS.iconst X101.here hx rfl (hb hby d1_13) ?_
        show Steps p.tables e below (T101.setTop (mkF m 14 #[.val (.ref a1), .val (.ref a2), .val (.int (1 : Int32))] [(.int (1 : Int32)), (.int (1 : Int32)), (.ref a2)])) _
        refine XS.isub X101.here hx rfl (hb hby d1_14) rfl ?_
        show Steps p.tables e below (T101.setTop (mkF m 15 #[.val (.ref a1), .val (.ref a2), .val (.int (1 : Int32))] [(.int ((1 : Int32) - (1 : Int32))), (.ref a2)])) _
        rw [(by decide : ((1 : Int32) - (1 : Int32)) = (0 : Int32))]
        show Steps p.tables e below (T101.setTop (mkF m 15 #[.val (.ref a1), .val (.ref a2), .val (.int (1 : Int32))] [(.int (0 : Int32)), (.ref a2)])) _
        exact k
      obtain ⟨cl107, Ar107, q107, S107, M107, H107, G107⟩ := id V2
      have hin107 : ¬ ((0 : Int32) < 0 ∨ cl107.slots.size ≤ ((0 : Int32)).toNatClampNeg) := inb_of S107 ⟨by decide, by decide⟩
      have hat107 : cl107.slots[((0 : Int32)).toNatClampNeg]? = some (.long w0) := Has.at H107 hin107 rfl
      refine EndsQ.go (fun t k => X101.laload hx (j := (0 : Int32)) (v := (.long w0)) (by rw [e101]; exact Ar107.1) (State.isArrayOf_alike hZ.alike Ar107.2.1) Ar107.2.2 hin107 hat107 (g := (mkF m 15 #[.val (.ref a1), .val (.ref a2), .val (.int (1 : Int32))] [(.int (0 : Int32)), (.ref a2)])) rfl rfl (hb hby d1_15) _ k) ?_
      show EndsQ _ _ _ _ _ _ _ (T101.setTop (mkF m 16 #[.val (.ref a1), .val (.ref a2), .val (.int (1 : Int32))] [(.long w0)]))
      refine EndsQ.go (b := T101.setTop (mkF m 18 #[.val (.ref a1), .val (.ref a2), .val (.int (1 : Int32))] [(.int (lcmpW w0 (0 : Int64)))])) (fun t k => ?_) ?_
      · show Steps p.tables e below (T101.setTop (mkF m 16 #[.val (.ref a1), .val (.ref a2), .val (.int (1 : Int32))] [(.long w0)])) _
        refine XS.lconst X101.here hx rfl (hb hby d1_16) ?_
        show Steps p.tables e below (T101.setTop (mkF m 17 #[.val (.ref a1), .val (.ref a2), .val (.int (1 : Int32))] [(.long (0 : Int64)), (.long w0)])) _
        refine XS.lcmp X101.here hx rfl (hb hby d1_17) rfl ?_
        show Steps p.tables e below (T101.setTop (mkF m 18 #[.val (.ref a1), .val (.ref a2), .val (.int (1 : Int32))] [(.int (lcmpW w0 (0 : Int64)))])) _
        exact k
      by_cases hc18_108 : w0 = (0 : Int64)
      · refine EndsQ.go (b := T101.setTop (mkF m 21 #[.val (.ref a1), .val (.ref a2), .val (.int (1 : Int32))] [])) (fun t k => ?_) ?_
        · show Steps p.tables e below (T101.setTop (mkF m 18 #[.val (.ref a1), .val (.ref a2), .val (.int (1 : Int32))] [(.int (lcmpW w0 (0 : Int64)))])) _
          refine XS.ifNo X101.here hx rfl (hb hby d1_18) rfl ((if0 _ _).trans (teq ((lw_eq w0 (0 : Int64)).mpr hc18_108)).2) ?_
          show Steps p.tables e below (T101.setTop (mkF m 21 #[.val (.ref a1), .val (.ref a2), .val (.int (1 : Int32))] [])) _
          exact k
        refine EndsQ.go (b := T101.setTop (mkF m 30 #[.val (.ref a1), .val (.ref a2), .val (.int (0 : Int32))] [(.ref a2), (.int (0 : Int32)), (.ref a1)])) (fun t k => ?_) ?_
        · show Steps p.tables e below (T101.setTop (mkF m 21 #[.val (.ref a1), .val (.ref a2), .val (.int (1 : Int32))] [])) _
          refine XS.iinc X101.here hx rfl (hb hby d1_21) rfl (l' := #[.val (.ref a1), .val (.ref a2), .val (.int ((1 : Int32) + Int32.ofInt (-1)))]) rfl ?_
          show Steps p.tables e below (T101.setTop (mkF m 24 #[.val (.ref a1), .val (.ref a2), .val (.int ((1 : Int32) + Int32.ofInt (-1)))] [])) _
          rw [(by decide : ((1 : Int32) + Int32.ofInt (-1)) = (0 : Int32))]
          show Steps p.tables e below (T101.setTop (mkF m 24 #[.val (.ref a1), .val (.ref a2), .val (.int (0 : Int32))] [])) _
          refine XS.goto X101.here hx rfl (pc0 := 24) (pc' := 7) rfl (hb hby d1_24) (by decide) (by decide) ?_
          show Steps p.tables e below (T101.setTop (mkF m 7 #[.val (.ref a1), .val (.ref a2), .val (.int (0 : Int32))] [])) _
          refine XS.iloadN X101.here hx rfl (hb hby d1_7) rfl ?_
          show Steps p.tables e below (T101.setTop (mkF m 8 #[.val (.ref a1), .val (.ref a2), .val (.int (0 : Int32))] [(.int (0 : Int32))])) _
          refine XS.ifYes X101.here hx rfl (pc0 := 8) (pc' := 27) rfl (hb hby d1_8) rfl ((if0 _ _).trans (flt (by decide)).2.2.2) (by decide) (by decide) ?_
          show Steps p.tables e below (T101.setTop (mkF m 27 #[.val (.ref a1), .val (.ref a2), .val (.int (0 : Int32))] [])) _
          refine XS.aloadN X101.here hx rfl (hb hby d1_27) rfl rfl ?_
          show Steps p.tables e below (T101.setTop (mkF m 28 #[.val (.ref a1), .val (.ref a2), .val (.int (0 : Int32))] [(.ref a1)])) _
          refine XS.iloadN X101.here hx rfl (hb hby d1_28) rfl ?_
          show Steps p.tables e below (T101.setTop (mkF m 29 #[.val (.ref a1), .val (.ref a2), .val (.int (0 : Int32))] [(.int (0 : Int32)), (.ref a1)])) _
          refine XS.aloadN X101.here hx rfl (hb hby d1_29) rfl rfl ?_
          show Steps p.tables e below (T101.setTop (mkF m 30 #[.val (.ref a1), .val (.ref a2), .val (.int (0 : Int32))] [(.ref a2), (.int (0 : Int32)), (.ref a1)])) _
          exact k
        obtain ⟨cl109, Ar109, -, S109, M109, -, -⟩ := id V2
        refine EndsQ.go (fun t k => X101.arraylength hx (by rw [e101]; exact Ar109.1) (State.isArrayOf_alike hZ.alike Ar109.2.1) (g := (mkF m 30 #[.val (.ref a1), .val (.ref a2), .val (.int (0 : Int32))] [(.ref a2), (.int (0 : Int32)), (.ref a1)])) rfl rfl (hb hby d1_30) _ k) ?_
        rw [len_of S109 M109]
        show EndsQ _ _ _ _ _ _ _ (T101.setTop (mkF m 31 #[.val (.ref a1), .val (.ref a2), .val (.int (0 : Int32))] [(.int (3 : Int32)), (.int (0 : Int32)), (.ref a1)]))
        refine EndsQ.go (b := T101.setTop (mkF m 40 #[.val (.ref a1), .val (.ref a2), .val (.int (0 : Int32))] [(.int (0 : Int32)), (.ref a2), (.ref a1)])) (fun t k => ?_) ?_
        · show Steps p.tables e below (T101.setTop (mkF m 31 #[.val (.ref a1), .val (.ref a2), .val (.int (0 : Int32))] [(.int (3 : Int32)), (.int (0 : Int32)), (.ref a1)])) _
          refine XS.icmpYes X101.here hx rfl (pc0 := 31) (pc' := 38) rfl (hb hby d1_31) rfl (feq (by decide)).2 (by decide) (by decide) ?_
          show Steps p.tables e below (T101.setTop (mkF m 38 #[.val (.ref a1), .val (.ref a2), .val (.int (0 : Int32))] [(.ref a1)])) _
          refine XS.aloadN X101.here hx rfl (hb hby d1_38) rfl rfl ?_
          show Steps p.tables e below (T101.setTop (mkF m 39 #[.val (.ref a1), .val (.ref a2), .val (.int (0 : Int32))] [(.ref a2), (.ref a1)])) _
          refine XS.iloadN X101.here hx rfl (hb hby d1_39) rfl ?_
          show Steps p.tables e below (T101.setTop (mkF m 40 #[.val (.ref a1), .val (.ref a2), .val (.int (0 : Int32))] [(.int (0 : Int32)), (.ref a2), (.ref a1)])) _
          exact k
        obtain ⟨_, _, ⟨T110, L110, kk110, nn110⟩, -, X110, ⟨Lc110, hQ110, l110, y110, z110⟩, st110⟩ := Jvm.LawKit.callS X101 hx (y := (⟨"java/util/Arrays", "copyOf", "([JI)[J"⟩ : MethodName)) hown (mvT hZ (hw _ (List.mem_of_getElem? (i := 18) rfl))) (mvT hZ (hw _ (List.mem_of_getElem? (i := 19) rfl))) (mvT hZ (hw _ (List.mem_of_getElem? (i := 20) rfl))) (mvT hZ (hw _ (List.mem_of_getElem? (i := 21) rfl))) (by decide) (backOf (W := 1) (rmCp30 l Z a0 hw [] a2 kA w0 w1 w2 h0 n0 Z0 V2) hZ (hw _ (List.mem_of_getElem? (i := 21) rfl)) (hw _ (List.mem_of_getElem? (i := 20) rfl)) (by decide) (by decide)) (g := (mkF m 40 #[.val (.ref a1), .val (.ref a2), .val (.int (0 : Int32))] [(.int (0 : Int32)), (.ref a2), (.ref a1)])) rfl (by rw [hml]; rfl) (argsL := [(.ref a2), (.int (0 : Int32))]) (rest := [(.ref a1)]) (lenOf pd_1 rfl) rfl (by show 2 * 0 + _ ≤ _; exact Nat.le_of_eq rfl) (hb hby d1_40) (fun _ _ => ⟨rfl, e101, (by decide : 0 + 1 ≤ _), (by decide : 0 + 2 ≤ _)⟩)
        dsimp only [Pt.U, Pt.locs, Pt.cells, Pt.slots] at X110 l110 y110 z110 st110 hQ110
        subst l110 y110 z110
        obtain ⟨c110, kc110, rfl, Nq110, Kc110, gc110, gd110, Vc110⟩ := hQ110
        have N110 := Fr.app N0 Nq110
        have f111 : Fld Z T110.heap a1 "com/example/sextant/sextant/ValueSet" "words" "[J" .null := F_words.keep Kc110 nin0
        have f112 : Exa Z T110.heap a1 "com/example/sextant/sextant/ValueSet" := E1.keep Kc110
        have f113 : Arv Z T110.heap a2 kA .long (3 : Int32) [(.long w0), (.long w1), (.long w2)] (.long (0 : Int64)) := V2.keep Kc110 nin0
        have f114 : n0 ≤ T110.heap.size := Nat.le_trans Z0 Kc110.1
        have f115 : Keep h0 T110.heap [a1] := K0.trans Kc110 all0
        have nec110 : a1 ≠ c110 := Nat.ne_of_lt (Nat.lt_of_lt_of_le E1.lt gd110)
        refine EndsQ.go st110 ?_
        show EndsQ _ _ _ _ _ _ _ (T110.setTop (mkF m 43 #[.val (.ref a1), .val (.ref a2), .val (.int (0 : Int32))] [(.ref c110), (.ref a1)]))
        obtain ⟨T116, h116, X116, e116, W116, st116⟩ := putF X110 hx hZ hown (host := "") (Or.inl (hw _ (List.mem_of_getElem? (i := 10) rfl))) Via.refl rfl f111 f112 (Or.inr ⟨(hw _ (List.mem_of_getElem? (i := 11) rfl)), rfl, hnm⟩) (hw _ (List.mem_of_getElem? (i := 2) rfl)) (ty := (.array .long)) (by decide) rfl rfl (g := (mkF m 43 #[.val (.ref a1), .val (.ref a2), .val (.int (0 : Int32))] [(.ref c110), (.ref a1)])) rfl rfl (hb hby d1_43)
        have fw116 : Fld Z h116 a1 "com/example/sextant/sextant/ValueSet" "words" "[J" (.ref c110) := f111.same W116
        have f117 : Exa Z h116 a1 "com/example/sextant/sextant/ValueSet" := f112.wr W116
        have f118 : Arv Z h116 a2 kA .long (3 : Int32) [(.long w0), (.long w1), (.long w2)] (.long (0 : Int64)) := f113.other W116 (Ne.symm hne)
        have f119 : n0 ≤ h116.size := Nat.le_trans f114 (Keep.of_wr W116).1
        have f120 : Keep h0 h116 [a1] := f115.wr W116 (Or.inl (List.mem_of_getElem? (i := 0) rfl))
        have f121 : Arv Z h116 c110 kc110 .long (0 : Int32) [] (.long (0 : Int64)) := Vc110.other W116 (Ne.symm nec110)
        have N116 := Fr.snoc X116 N110 g1
        refine EndsQ.go st116 ?_
        show EndsQ _ _ _ _ _ _ _ (T116.setTop (mkF m 46 #[.val (.ref a1), .val (.ref a2), .val (.int (0 : Int32))] []))
        refine EndsQ.retV X116 hx Bd.notSynchronized Bd.returns (hb hby d1_46) (by decide) (by decide) ?_
        show QI3 Z a1 a2 kA w0 w1 w2 h0 n0 (none) T116.heap _
        rw [e116]
        exact ⟨c110, kc110, _, _, rfl, N116, f120, f117, fw116, f121, (Or.inr (Or.inr (Or.inr ⟨hc18_104, hc18_106, hc18_108, rfl, rfl⟩)))⟩
      · refine EndsQ.go (b := T101.setTop (mkF m 27 #[.val (.ref a1), .val (.ref a2), .val (.int (1 : Int32))] [])) (fun t k => ?_) ?_
        · show Steps p.tables e below (T101.setTop (mkF m 18 #[.val (.ref a1), .val (.ref a2), .val (.int (1 : Int32))] [(.int (lcmpW w0 (0 : Int64)))])) _
          refine XS.ifYes X101.here hx rfl (pc0 := 18) (pc' := 27) rfl (hb hby d1_18) rfl ((if0 _ _).trans (feq (fun q => hc18_108 ((lw_eq w0 (0 : Int64)).mp q))).2) (by decide) (by decide) ?_
          show Steps p.tables e below (T101.setTop (mkF m 27 #[.val (.ref a1), .val (.ref a2), .val (.int (1 : Int32))] [])) _
          exact k
        refine EndsQ.go (b := T101.setTop (mkF m 30 #[.val (.ref a1), .val (.ref a2), .val (.int (1 : Int32))] [(.ref a2), (.int (1 : Int32)), (.ref a1)])) (fun t k => ?_) ?_
        · show Steps p.tables e below (T101.setTop (mkF m 27 #[.val (.ref a1), .val (.ref a2), .val (.int (1 : Int32))] [])) _
          refine XS.aloadN X101.here hx rfl (hb hby d1_27) rfl rfl ?_
          show Steps p.tables e below (T101.setTop (mkF m 28 #[.val (.ref a1), .val (.ref a2), .val (.int (1 : Int32))] [(.ref a1)])) _
          refine XS.iloadN X101.here hx rfl (hb hby d1_28) rfl ?_
          show Steps p.tables e below (T101.setTop (mkF m 29 #[.val (.ref a1), .val (.ref a2), .val (.int (1 : Int32))] [(.int (1 : Int32)), (.ref a1)])) _
          refine XS.aloadN X101.here hx rfl (hb hby d1_29) rfl rfl ?_
          show Steps p.tables e below (T101.setTop (mkF m 30 #[.val (.ref a1), .val (.ref a2), .val (.int (1 : Int32))] [(.ref a2), (.int (1 : Int32)), (.ref a1)])) _
          exact k
        obtain ⟨cl122, Ar122, -, S122, M122, -, -⟩ := id V2
        refine EndsQ.go (fun t k => X101.arraylength hx (by rw [e101]; exact Ar122.1) (State.isArrayOf_alike hZ.alike Ar122.2.1) (g := (mkF m 30 #[.val (.ref a1), .val (.ref a2), .val (.int (1 : Int32))] [(.ref a2), (.int (1 : Int32)), (.ref a1)])) rfl rfl (hb hby d1_30) _ k) ?_
        rw [len_of S122 M122]
        show EndsQ _ _ _ _ _ _ _ (T101.setTop (mkF m 31 #[.val (.ref a1), .val (.ref a2), .val (.int (1 : Int32))] [(.int (3 : Int32)), (.int (1 : Int32)), (.ref a1)]))
        refine EndsQ.go (b := T101.setTop (mkF m 40 #[.val (.ref a1), .val (.ref a2), .val (.int (1 : Int32))] [(.int (1 : Int32)), (.ref a2), (.ref a1)])) (fun t k => ?_) ?_
        · show Steps p.tables e below (T101.setTop (mkF m 31 #[.val (.ref a1), .val (.ref a2), .val (.int (1 : Int32))] [(.int (3 : Int32)), (.int (1 : Int32)), (.ref a1)])) _
          refine XS.icmpYes X101.here hx rfl (pc0 := 31) (pc' := 38) rfl (hb hby d1_31) rfl (feq (by decide)).2 (by decide) (by decide) ?_
          show Steps p.tables e below (T101.setTop (mkF m 38 #[.val (.ref a1), .val (.ref a2), .val (.int (1 : Int32))] [(.ref a1)])) _
          refine XS.aloadN X101.here hx rfl (hb hby d1_38) rfl rfl ?_
          show Steps p.tables e below (T101.setTop (mkF m 39 #[.val (.ref a1), .val (.ref a2), .val (.int (1 : Int32))] [(.ref a2), (.ref a1)])) _
          refine XS.iloadN X101.here hx rfl (hb hby d1_39) rfl ?_
          show Steps p.tables e below (T101.setTop (mkF m 40 #[.val (.ref a1), .val (.ref a2), .val (.int (1 : Int32))] [(.int (1 : Int32)), (.ref a2), (.ref a1)])) _
          exact k
        obtain ⟨_, _, ⟨T123, L123, kk123, nn123⟩, -, X123, ⟨Lc123, hQ123, l123, y123, z123⟩, st123⟩ := Jvm.LawKit.callS X101 hx (y := (⟨"java/util/Arrays", "copyOf", "([JI)[J"⟩ : MethodName)) hown (mvT hZ (hw _ (List.mem_of_getElem? (i := 18) rfl))) (mvT hZ (hw _ (List.mem_of_getElem? (i := 19) rfl))) (mvT hZ (hw _ (List.mem_of_getElem? (i := 20) rfl))) (mvT hZ (hw _ (List.mem_of_getElem? (i := 21) rfl))) (by decide) (backOf (W := 1) (rmCp31 l Z a0 hw [] a2 kA w0 w1 w2 h0 n0 Z0 V2) hZ (hw _ (List.mem_of_getElem? (i := 21) rfl)) (hw _ (List.mem_of_getElem? (i := 20) rfl)) (by decide) (by decide)) (g := (mkF m 40 #[.val (.ref a1), .val (.ref a2), .val (.int (1 : Int32))] [(.int (1 : Int32)), (.ref a2), (.ref a1)])) rfl (by rw [hml]; rfl) (argsL := [(.ref a2), (.int (1 : Int32))]) (rest := [(.ref a1)]) (lenOf pd_1 rfl) rfl (by show 2 * 0 + _ ≤ _; exact Nat.le_of_eq rfl) (hb hby d1_40) (fun _ _ => ⟨rfl, e101, (by decide : 0 + 1 ≤ _), (by decide : 0 + 2 ≤ _)⟩)
        dsimp only [Pt.U, Pt.locs, Pt.cells, Pt.slots] at X123 l123 y123 z123 st123 hQ123
        subst l123 y123 z123
        obtain ⟨c123, kc123, rfl, Nq123, Kc123, gc123, gd123, Vc123⟩ := hQ123
        have N123 := Fr.app N0 Nq123
        have f124 : Fld Z T123.heap a1 "com/example/sextant/sextant/ValueSet" "words" "[J" .null := F_words.keep Kc123 nin0
        have f125 : Exa Z T123.heap a1 "com/example/sextant/sextant/ValueSet" := E1.keep Kc123
        have f126 : Arv Z T123.heap a2 kA .long (3 : Int32) [(.long w0), (.long w1), (.long w2)] (.long (0 : Int64)) := V2.keep Kc123 nin0
        have f127 : n0 ≤ T123.heap.size := Nat.le_trans Z0 Kc123.1
        have f128 : Keep h0 T123.heap [a1] := K0.trans Kc123 all0
        have nec123 : a1 ≠ c123 := Nat.ne_of_lt (Nat.lt_of_lt_of_le E1.lt gd123)
        refine EndsQ.go st123 ?_
        show EndsQ _ _ _ _ _ _ _ (T123.setTop (mkF m 43 #[.val (.ref a1), .val (.ref a2), .val (.int (1 : Int32))] [(.ref c123), (.ref a1)]))
        obtain ⟨T129, h129, X129, e129, W129, st129⟩ := putF X123 hx hZ hown (host := "") (Or.inl (hw _ (List.mem_of_getElem? (i := 10) rfl))) Via.refl rfl f124 f125 (Or.inr ⟨(hw _ (List.mem_of_getElem? (i := 11) rfl)), rfl, hnm⟩) (hw _ (List.mem_of_getElem? (i := 2) rfl)) (ty := (.array .long)) (by decide) rfl rfl (g := (mkF m 43 #[.val (.ref a1), .val (.ref a2), .val (.int (1 : Int32))] [(.ref c123), (.ref a1)])) rfl rfl (hb hby d1_43)
        have fw129 : Fld Z h129 a1 "com/example/sextant/sextant/ValueSet" "words" "[J" (.ref c123) := f124.same W129
        have f130 : Exa Z h129 a1 "com/example/sextant/sextant/ValueSet" := f125.wr W129
        have f131 : Arv Z h129 a2 kA .long (3 : Int32) [(.long w0), (.long w1), (.long w2)] (.long (0 : Int64)) := f126.other W129 (Ne.symm hne)
        have f132 : n0 ≤ h129.size := Nat.le_trans f127 (Keep.of_wr W129).1
        have f133 : Keep h0 h129 [a1] := f128.wr W129 (Or.inl (List.mem_of_getElem? (i := 0) rfl))
        have f134 : Arv Z h129 c123 kc123 .long (1 : Int32) [(.long w0)] (.long (0 : Int64)) := Vc123.other W129 (Ne.symm nec123)
        have N129 := Fr.snoc X129 N123 g1
        refine EndsQ.go st129 ?_
        show EndsQ _ _ _ _ _ _ _ (T129.setTop (mkF m 46 #[.val (.ref a1), .val (.ref a2), .val (.int (1 : Int32))] []))
        refine EndsQ.retV X129 hx Bd.notSynchronized Bd.returns (hb hby d1_46) (by decide) (by decide) ?_
        show QI3 Z a1 a2 kA w0 w1 w2 h0 n0 (none) T129.heap _
        rw [e129]
        exact ⟨c123, kc123, _, _, rfl, N129, f133, f130, fw129, f134, (Or.inr (Or.inr (Or.inl ⟨hc18_104, hc18_106, rfl, rfl⟩)))⟩
    · refine EndsQ.go (b := T101.setTop (mkF m 27 #[.val (.ref a1), .val (.ref a2), .val (.int (2 : Int32))] [])) (fun t k => ?_) ?_
      · show Steps p.tables e below (T101.setTop (mkF m 18 #[.val (.ref a1), .val (.ref a2), .val (.int (2 : Int32))] [(.int (lcmpW w1 (0 : Int64)))])) _
        refine XS.ifYes X101.here hx rfl (pc0 := 18) (pc' := 27) rfl (hb hby d1_18) rfl ((if0 _ _).trans (feq (fun q => hc18_106 ((lw_eq w1 (0 : Int64)).mp q))).2) (by decide) (by decide) ?_
        show Steps p.tables e below (T101.setTop (mkF m 27 #[.val (.ref a1), .val (.ref a2), .val (.int (2 : Int32))] [])) _
        exact k
      refine EndsQ.go (b := T101.setTop (mkF m 30 #[.val (.ref a1), .val (.ref a2), .val (.int (2 : Int32))] [(.ref a2), (.int (2 : Int32)), (.ref a1)])) (fun t k => ?_) ?_
      · show Steps p.tables e below (T101.setTop (mkF m 27 #[.val (.ref a1), .val (.ref a2), .val (.int (2 : Int32))] [])) _
        refine XS.aloadN X101.here hx rfl (hb hby d1_27) rfl rfl ?_
        show Steps p.tables e below (T101.setTop (mkF m 28 #[.val (.ref a1), .val (.ref a2), .val (.int (2 : Int32))] [(.ref a1)])) _
        refine XS.iloadN X101.here hx rfl (hb hby d1_28) rfl ?_
        show Steps p.tables e below (T101.setTop (mkF m 29 #[.val (.ref a1), .val (.ref a2), .val (.int (2 : Int32))] [(.int (2 : Int32)), (.ref a1)])) _
        refine XS.aloadN X101.here hx rfl (hb hby d1_29) rfl rfl ?_
        show Steps p.tables e below (T101.setTop (mkF m 30 #[.val (.ref a1), .val (.ref a2), .val (.int (2 : Int32))] [(.ref a2), (.int (2 : Int32)), (.ref a1)])) _
        exact k
      obtain ⟨cl135, Ar135, -, S135, M135, -, -⟩ := id V2
      refine EndsQ.go (fun t k => X101.arraylength hx (by rw [e101]; exact Ar135.1) (State.isArrayOf_alike hZ.alike Ar135.2.1) (g := (mkF m 30 #[.val (.ref a1), .val (.ref a2), .val (.int (2 : Int32))] [(.ref a2), (.int (2 : Int32)), (.ref a1)])) rfl rfl (hb hby d1_30) _ k) ?_
      rw [len_of S135 M135]
      show EndsQ _ _ _ _ _ _ _ (T101.setTop (mkF m 31 #[.val (.ref a1), .val (.ref a2), .val (.int (2 : Int32))] [(.int (3 : Int32)), (.int (2 : Int32)), (.ref a1)]))
      refine EndsQ.go (b := T101.setTop (mkF m 40 #[.val (.ref a1), .val (.ref a2), .val (.int (2 : Int32))] [(.int (2 : Int32)), (.ref a2), (.ref a1)])) (fun t k => ?_) ?_
      · show Steps p.tables e below (T101.setTop (mkF m 31 #[.val (.ref a1), .val (.ref a2), .val (.int (2 : Int32))] [(.int (3 : Int32)), (.int (2 : Int32)), (.ref a1)])) _
        refine XS.icmpYes X101.here hx rfl (pc0 := 31) (pc' := 38) rfl (hb hby d1_31) rfl (feq (by decide)).2 (by decide) (by decide) ?_
        show Steps p.tables e below (T101.setTop (mkF m 38 #[.val (.ref a1), .val (.ref a2), .val (.int (2 : Int32))] [(.ref a1)])) _
        refine XS.aloadN X101.here hx rfl (hb hby d1_38) rfl rfl ?_
        show Steps p.tables e below (T101.setTop (mkF m 39 #[.val (.ref a1), .val (.ref a2), .val (.int (2 : Int32))] [(.ref a2), (.ref a1)])) _
        refine XS.iloadN X101.here hx rfl (hb hby d1_39) rfl ?_
        show Steps p.tables e below (T101.setTop (mkF m 40 #[.val (.ref a1), .val (.ref a2), .val (.int (2 : Int32))] [(.int (2 : Int32)), (.ref a2), (.ref a1)])) _
        exact k
      obtain ⟨_, _, ⟨T136, L136, kk136, nn136⟩, -, X136, ⟨Lc136, hQ136, l136, y136, z136⟩, st136⟩ := Jvm.LawKit.callS X101 hx (y := (⟨"java/util/Arrays", "copyOf", "([JI)[J"⟩ : MethodName)) hown (mvT hZ (hw _ (List.mem_of_getElem? (i := 18) rfl))) (mvT hZ (hw _ (List.mem_of_getElem? (i := 19) rfl))) (mvT hZ (hw _ (List.mem_of_getElem? (i := 20) rfl))) (mvT hZ (hw _ (List.mem_of_getElem? (i := 21) rfl))) (by decide) (backOf (W := 1) (rmCp32 l Z a0 hw [] a2 kA w0 w1 w2 h0 n0 Z0 V2) hZ (hw _ (List.mem_of_getElem? (i := 21) rfl)) (hw _ (List.mem_of_getElem? (i := 20) rfl)) (by decide) (by decide)) (g := (mkF m 40 #[.val (.ref a1), .val (.ref a2), .val (.int (2 : Int32))] [(.int (2 : Int32)), (.ref a2), (.ref a1)])) rfl (by rw [hml]; rfl) (argsL := [(.ref a2), (.int (2 : Int32))]) (rest := [(.ref a1)]) (lenOf pd_1 rfl) rfl (by show 2 * 0 + _ ≤ _; exact Nat.le_of_eq rfl) (hb hby d1_40) (fun _ _ => ⟨rfl, e101, (by decide : 0 + 1 ≤ _), (by decide : 0 + 2 ≤ _)⟩)
      dsimp only [Pt.U, Pt.locs, Pt.cells, Pt.slots] at X136 l136 y136 z136 st136 hQ136
      subst l136 y136 z136
      obtain ⟨c136, kc136, rfl, Nq136, Kc136, gc136, gd136, Vc136⟩ := hQ136
      have N136 := Fr.app N0 Nq136
      have f137 : Fld Z T136.heap a1 "com/example/sextant/sextant/ValueSet" "words" "[J" .null := F_words.keep Kc136 nin0
      have f138 : Exa Z T136.heap a1 "com/example/sextant/sextant/ValueSet" := E1.keep Kc136
      have f139 : Arv Z T136.heap a2 kA .long (3 : Int32) [(.long w0), (.long w1), (.long w2)] (.long (0 : Int64)) := V2.keep Kc136 nin0
      have f140 : n0 ≤ T136.heap.size := Nat.le_trans Z0 Kc136.1
      have f141 : Keep h0 T136.heap [a1] := K0.trans Kc136 all0
      have nec136 : a1 ≠ c136 := Nat.ne_of_lt (Nat.lt_of_lt_of_le E1.lt gd136)
      refine EndsQ.go st136 ?_
      show EndsQ _ _ _ _ _ _ _ (T136.setTop (mkF m 43 #[.val (.ref a1), .val (.ref a2), .val (.int (2 : Int32))] [(.ref c136), (.ref a1)]))
      obtain ⟨T142, h142, X142, e142, W142, st142⟩ := putF X136 hx hZ hown (host := "") (Or.inl (hw _ (List.mem_of_getElem? (i := 10) rfl))) Via.refl rfl f137 f138 (Or.inr ⟨(hw _ (List.mem_of_getElem? (i := 11) rfl)), rfl, hnm⟩) (hw _ (List.mem_of_getElem? (i := 2) rfl)) (ty := (.array .long)) (by decide) rfl rfl (g := (mkF m 43 #[.val (.ref a1), .val (.ref a2), .val (.int (2 : Int32))] [(.ref c136), (.ref a1)])) rfl rfl (hb hby d1_43)
      have fw142 : Fld Z h142 a1 "com/example/sextant/sextant/ValueSet" "words" "[J" (.ref c136) := f137.same W142
      have f143 : Exa Z h142 a1 "com/example/sextant/sextant/ValueSet" := f138.wr W142
      have f144 : Arv Z h142 a2 kA .long (3 : Int32) [(.long w0), (.long w1), (.long w2)] (.long (0 : Int64)) := f139.other W142 (Ne.symm hne)
      have f145 : n0 ≤ h142.size := Nat.le_trans f140 (Keep.of_wr W142).1
      have f146 : Keep h0 h142 [a1] := f141.wr W142 (Or.inl (List.mem_of_getElem? (i := 0) rfl))
      have f147 : Arv Z h142 c136 kc136 .long (2 : Int32) [(.long w0), (.long w1)] (.long (0 : Int64)) := Vc136.other W142 (Ne.symm nec136)
      have N142 := Fr.snoc X142 N136 g1
      refine EndsQ.go st142 ?_
      show EndsQ _ _ _ _ _ _ _ (T142.setTop (mkF m 46 #[.val (.ref a1), .val (.ref a2), .val (.int (2 : Int32))] []))
      refine EndsQ.retV X142 hx Bd.notSynchronized Bd.returns (hb hby d1_46) (by decide) (by decide) ?_
      show QI3 Z a1 a2 kA w0 w1 w2 h0 n0 (none) T142.heap _
      rw [e142]
      exact ⟨c136, kc136, _, _, rfl, N142, f146, f143, fw142, f147, (Or.inr (Or.inl ⟨hc18_104, rfl, rfl⟩))⟩
  · refine EndsQ.go (b := T101.setTop (mkF m 27 #[.val (.ref a1), .val (.ref a2), .val (.int (3 : Int32))] [])) (fun t k => ?_) ?_
    · show Steps p.tables e below (T101.setTop (mkF m 18 #[.val (.ref a1), .val (.ref a2), .val (.int (3 : Int32))] [(.int (lcmpW w2 (0 : Int64)))])) _
      refine XS.ifYes X101.here hx rfl (pc0 := 18) (pc' := 27) rfl (hb hby d1_18) rfl ((if0 _ _).trans (feq (fun q => hc18_104 ((lw_eq w2 (0 : Int64)).mp q))).2) (by decide) (by decide) ?_
      show Steps p.tables e below (T101.setTop (mkF m 27 #[.val (.ref a1), .val (.ref a2), .val (.int (3 : Int32))] [])) _
      exact k
    refine EndsQ.go (b := T101.setTop (mkF m 30 #[.val (.ref a1), .val (.ref a2), .val (.int (3 : Int32))] [(.ref a2), (.int (3 : Int32)), (.ref a1)])) (fun t k => ?_) ?_
    · show Steps p.tables e below (T101.setTop (mkF m 27 #[.val (.ref a1), .val (.ref a2), .val (.int (3 : Int32))] [])) _
      refine XS.aloadN X101.here hx rfl (hb hby d1_27) rfl rfl ?_
      show Steps p.tables e below (T101.setTop (mkF m 28 #[.val (.ref a1), .val (.ref a2), .val (.int (3 : Int32))] [(.ref a1)])) _
      refine XS.iloadN X101.here hx rfl (hb hby d1_28) rfl ?_
      show Steps p.tables e below (T101.setTop (mkF m 29 #[.val (.ref a1), .val (.ref a2), .val (.int (3 : Int32))] [(.int (3 : Int32)), (.ref a1)])) _
      refine XS.aloadN X101.here hx rfl (hb hby d1_29) rfl rfl ?_
      show Steps p.tables e below (T101.setTop (mkF m 30 #[.val (.ref a1), .val (.ref a2), .val (.int (3 : Int32))] [(.ref a2), (.int (3 : Int32)), (.ref a1)])) _
      exact k
    obtain ⟨cl148, Ar148, -, S148, M148, -, -⟩ := id V2
    refine EndsQ.go (fun t k => X101.arraylength hx (by rw [e101]; exact Ar148.1) (State.isArrayOf_alike hZ.alike Ar148.2.1) (g := (mkF m 30 #[.val (.ref a1), .val (.ref a2), .val (.int (3 : Int32))] [(.ref a2), (.int (3 : Int32)), (.ref a1)])) rfl rfl (hb hby d1_30) _ k) ?_
    rw [len_of S148 M148]
    show EndsQ _ _ _ _ _ _ _ (T101.setTop (mkF m 31 #[.val (.ref a1), .val (.ref a2), .val (.int (3 : Int32))] [(.int (3 : Int32)), (.int (3 : Int32)), (.ref a1)]))
    refine EndsQ.go (b := T101.setTop (mkF m 43 #[.val (.ref a1), .val (.ref a2), .val (.int (3 : Int32))] [(.ref a2), (.ref a1)])) (fun t k => ?_) ?_
    · show Steps p.tables e below (T101.setTop (mkF m 31 #[.val (.ref a1), .val (.ref a2), .val (.int (3 : Int32))] [(.int (3 : Int32)), (.int (3 : Int32)), (.ref a1)])) _
      refine XS.icmpNo X101.here hx rfl (hb hby d1_31) rfl (teq (by decide)).2 ?_
      show Steps p.tables e below (T101.setTop (mkF m 34 #[.val (.ref a1), .val (.ref a2), .val (.int (3 : Int32))] [(.ref a1)])) _
      refine XS.aloadN X101.here hx rfl (hb hby d1_34) rfl rfl ?_
      show Steps p.tables e below (T101.setTop (mkF m 35 #[.val (.ref a1), .val (.ref a2), .val (.int (3 : Int32))] [(.ref a2), (.ref a1)])) _
      refine XS.goto X101.here hx rfl (pc0 := 35) (pc' := 43) rfl (hb hby d1_35) (by decide) (by decide) ?_
      show Steps p.tables e below (T101.setTop (mkF m 43 #[.val (.ref a1), .val (.ref a2), .val (.int (3 : Int32))] [(.ref a2), (.ref a1)])) _
      exact k
    obtain ⟨T149, h149, X149, e149, W149, st149⟩ := putF X101 hx hZ hown (host := "") (Or.inl (hw _ (List.mem_of_getElem? (i := 10) rfl))) Via.refl e101 F_words E1 (Or.inr ⟨(hw _ (List.mem_of_getElem? (i := 11) rfl)), rfl, hnm⟩) (hw _ (List.mem_of_getElem? (i := 2) rfl)) (ty := (.array .long)) (by decide) rfl rfl (g := (mkF m 43 #[.val (.ref a1), .val (.ref a2), .val (.int (3 : Int32))] [(.ref a2), (.ref a1)])) rfl rfl (hb hby d1_43)
    have fw149 : Fld Z h149 a1 "com/example/sextant/sextant/ValueSet" "words" "[J" (.ref a2) := F_words.same W149
    have f150 : Exa Z h149 a1 "com/example/sextant/sextant/ValueSet" := E1.wr W149
    have f151 : Arv Z h149 a2 kA .long (3 : Int32) [(.long w0), (.long w1), (.long w2)] (.long (0 : Int64)) := V2.other W149 (Ne.symm hne)
    have f152 : n0 ≤ h149.size := Nat.le_trans Z0 (Keep.of_wr W149).1
    have f153 : Keep h0 h149 [a1] := K0.wr W149 (Or.inl (List.mem_of_getElem? (i := 0) rfl))
    have N149 := Fr.snoc X149 N0 g1
    refine EndsQ.go st149 ?_
    show EndsQ _ _ _ _ _ _ _ (T149.setTop (mkF m 46 #[.val (.ref a1), .val (.ref a2), .val (.int (3 : Int32))] []))
    refine EndsQ.retV X149 hx Bd.notSynchronized Bd.returns (hb hby d1_46) (by decide) (by decide) ?_
    show QI3 Z a1 a2 kA w0 w1 w2 h0 n0 (none) T149.heap _
    rw [e149]
    exact ⟨a2, kA, _, _, rfl, N149, f153, f150, fw149, f151, (Or.inl ⟨rfl, rfl⟩)⟩
theorem ef_3 (m : MethodId) (x0 : Addr) (x1 : Int32) : entryFrame m #[(.ref x0), (.int x1)] 3 = mkF m 0 #[.val (.ref x0), .val (.int x1), .unset] [] := by first | (simp [entryFrame, mkF, argsToLocals, Value.category]; done) | rfl
def Q3 (Z : State) (a1 : Addr) (p2 : Int32) (b : Addr) (kB : ClassId) (z : Int32) (vs : List Value) (r : Int64) (h0 : Heap) (n0 : Nat) (v : Option Value) (h : Heap) (L : List Loc) : Prop := v = some (.int (own_has p2 z r)) ∧ Fr n0 L ∧ h = h0
set_option maxRecDepth 65536 in
set_option maxHeartbeats 40000000 in
theorem rm3 (l : Launch) (Z : State) (a0 : Array Value) (hw : ∀ d ∈ tables_1, d.before a0 Z = true) (ws : List Jvm.Cond) (a1 : Addr) (p2 : Int32) (b : Addr) (kB : ClassId) (z : Int32) (vs : List Value) (r : Int64) (h0 : Heap) (n0 : Nat) (Z0 : n0 ≤ h0.size) (F1 : Fld Z h0 a1 "com/example/sextant/sextant/ValueSet" "words" "[J" (.ref b)) (V1 : Arv Z h0 b kB .long z vs (.long (0 : Int64))) (hsel : own_w p2 < z → (¬ own_w p2 < 0 ∧ own_w p2 < z) ∧ vs.getD (own_w p2).toNatClampNeg (.long (0 : Int64)) = .long r) :
    MetFree l (⟨"com/example/sextant/sextant/ValueSet", "contains", "(I)Z"⟩ : MethodName) (head1 (Jvm.Cond.code (⟨"com/example/sextant/sextant/ValueSet", "contains", "(I)Z"⟩ : MethodName) prog_21_method_2_code 3 (some .boolean) :: ws) ({ frames := 0, cells := 0, slots := 0, locals := 0 } : Room)) (fun a U => a = #[(.ref a1), (.int p2)] ∧ Z.Warmed39 U.vm ∧ U.heap = h0) (fun _ _ _ _ _ => True) (fun _ U o U' => ∃ v L, o = .returned v ∧ Q3 Z a1 p2 b kB z vs r h0 n0 v U'.heap L ∧ FrameEnd U o U' L ({ frames := 0, cells := 0, slots := 0, locals := 0 } : Room).cells ({ frames := 0, cells := 0, slots := 0, locals := 0 } : Room).slots) := by
  refine MetFree.of_bodySF (plainFor_of_name pn_3) hisR ?_
  intro p e s m args below meth c s₁ Bd hml0 hP hK
  obtain ⟨rfl, hZ, hh⟩ := hP
  have hx := Bd.exec
  have hby := Bd.bytes
  have hml : c.maxLocals = 3 := hml0
  have hown : s.vm.findClass "com/example/sextant/sextant/ValueSet" = some m.cls := findClass_of_methodNamed Bd.named
  have hnm := (name_of_methodNamed Bd.named Bd.method).1
  have X0 : Stand p l e ({ frames := 0, cells := 0, slots := 0, locals := 0 } : Room) s m #[(.ref a1), (.int p2)] below meth c s₁ [] 0 0 := Stand.of_body Bd
  have e0 : s₁.heap = h0 := by rw [← hh, Bd.state]; rfl
  have N0 := Fr.nil n0
  show EndsQ p.tables e below s (fun v h L => Q3 Z a1 p2 b kB z vs r h0 n0 v h L) ({ frames := 0, cells := 0, slots := 0, locals := 0 } : Room).cells ({ frames := 0, cells := 0, slots := 0, locals := 0 } : Room).slots _
  refine EndsQ.go (b := s₁.setTop (mkF m 0 #[.val (.ref a1), .val (.int p2), .unset] [])) (fun t k => castTop (ef_3 m a1 p2) k) ?_
  refine EndsQ.go (b := s₁.setTop (mkF m 5 #[.val (.ref a1), .val (.int p2), .val (.int ((p2.toUInt32 >>> ((6 : Int32) &&& 31).toUInt32).toInt32))] [])) (fun t k => ?_) ?_
  · show Steps p.tables e below (s₁.setTop (mkF m 0 #[.val (.ref a1), .val (.int p2), .unset] [])) _
    refine XS.iloadN X0.here hx rfl (hb hby d3_0) rfl ?_
    show Steps p.tables e below (s₁.setTop (mkF m 1 #[.val (.ref a1), .val (.int p2), .unset] [(.int p2)])) _
    refine XS.bipush X0.here hx rfl (hb hby d3_1) ?_
    show Steps p.tables e below (s₁.setTop (mkF m 3 #[.val (.ref a1), .val (.int p2), .unset] [(.int (6 : Int32)), (.int p2)])) _
    refine XS.iushr X0.here hx rfl (hb hby d3_3) rfl ?_
    show Steps p.tables e below (s₁.setTop (mkF m 4 #[.val (.ref a1), .val (.int p2), .unset] [(.int ((p2.toUInt32 >>> ((6 : Int32) &&& 31).toUInt32).toInt32))])) _
    refine XS.istoreN X0.here hx rfl (hb hby d3_4) rfl (l' := #[.val (.ref a1), .val (.int p2), .val (.int ((p2.toUInt32 >>> ((6 : Int32) &&& 31).toUInt32).toInt32))]) rfl ?_
    show Steps p.tables e below (s₁.setTop (mkF m 5 #[.val (.ref a1), .val (.int p2), .val (.int ((p2.toUInt32 >>> ((6 : Int32) &&& 31).toUInt32).toInt32))] [])) _
    exact k
  show EndsQ _ _ _ _ _ _ _ (s₁.setTop (mkF m 5 #[.val (.ref a1), .val (.int p2), .val (.int (own_w p2))] []))
  refine EndsQ.go (b := s₁.setTop (mkF m 7 #[.val (.ref a1), .val (.int p2), .val (.int (own_w p2))] [(.ref a1), (.int (own_w p2))])) (fun t k => ?_) ?_
  · show Steps p.tables e below (s₁.setTop (mkF m 5 #[.val (.ref a1), .val (.int p2), .val (.int (own_w p2))] [])) _
    refine XS.iloadN X0.here hx rfl (hb hby d3_5) rfl ?_
    show Steps p.tables e below (s₁.setTop (mkF m 6 #[.val (.ref a1), .val (.int p2), .val (.int (own_w p2))] [(.int (own_w p2))])) _
    refine XS.aloadN X0.here hx rfl (hb hby d3_6) rfl rfl ?_
    show Steps p.tables e below (s₁.setTop (mkF m 7 #[.val (.ref a1), .val (.int p2), .val (.int (own_w p2))] [(.ref a1), (.int (own_w p2))])) _
    exact k
  obtain ⟨T101, X101, e101, st101⟩ := getF X0 hx hZ hown (host := "") (Or.inl (hw _ (List.mem_of_getElem? (i := 10) rfl))) Via.refl e0 F1 (g := (mkF m 7 #[.val (.ref a1), .val (.int p2), .val (.int (own_w p2))] [(.ref a1), (.int (own_w p2))])) rfl rfl (hb hby d3_7)
  refine EndsQ.go st101 ?_
  show EndsQ _ _ _ _ _ _ _ (T101.setTop (mkF m 10 #[.val (.ref a1), .val (.int p2), .val (.int (own_w p2))] [(.ref b), (.int (own_w p2))]))
  obtain ⟨cl102, Ar102, -, S102, M102, -, -⟩ := id V1
  refine EndsQ.go (fun t k => X101.arraylength hx (by rw [e101]; exact Ar102.1) (State.isArrayOf_alike hZ.alike Ar102.2.1) (g := (mkF m 10 #[.val (.ref a1), .val (.int p2), .val (.int (own_w p2))] [(.ref b), (.int (own_w p2))])) rfl rfl (hb hby d3_10) _ k) ?_
  rw [len_of S102 M102]
  show EndsQ _ _ _ _ _ _ _ (T101.setTop (mkF m 11 #[.val (.ref a1), .val (.int p2), .val (.int (own_w p2))] [(.int z), (.int (own_w p2))]))
  by_cases hc11_103 : (own_w p2) < z
  · refine EndsQ.go (b := T101.setTop (mkF m 14 #[.val (.ref a1), .val (.int p2), .val (.int (own_w p2))] [])) (fun t k => ?_) ?_
    · show Steps p.tables e below (T101.setTop (mkF m 11 #[.val (.ref a1), .val (.int p2), .val (.int (own_w p2))] [(.int z), (.int (own_w p2))])) _
      refine XS.icmpNo X101.here hx rfl (hb hby d3_11) rfl (tlt hc11_103).2.1 ?_
      show Steps p.tables e below (T101.setTop (mkF m 14 #[.val (.ref a1), .val (.int p2), .val (.int (own_w p2))] [])) _
      exact k
    refine EndsQ.go (b := T101.setTop (mkF m 15 #[.val (.ref a1), .val (.int p2), .val (.int (own_w p2))] [(.ref a1)])) (fun t k => ?_) ?_
    · show Steps p.tables e below (T101.setTop (mkF m 14 #[.val (.ref a1), .val (.int p2), .val (.int (own_w p2))] [])) _
      refine XS.aloadN X101.here hx rfl (hb hby d3_14) rfl rfl ?_
      show Steps p.tables e below (T101.setTop (mkF m 15 #[.val (.ref a1), .val (.int p2), .val (.int (own_w p2))] [(.ref a1)])) _
      exact k
    obtain ⟨T104, X104, e104, st104⟩ := getF X101 hx hZ hown (host := "") (Or.inl (hw _ (List.mem_of_getElem? (i := 10) rfl))) Via.refl e101 F1 (g := (mkF m 15 #[.val (.ref a1), .val (.int p2), .val (.int (own_w p2))] [(.ref a1)])) rfl rfl (hb hby d3_15)
    refine EndsQ.go st104 ?_
    show EndsQ _ _ _ _ _ _ _ (T104.setTop (mkF m 18 #[.val (.ref a1), .val (.int p2), .val (.int (own_w p2))] [(.ref b)]))
    refine EndsQ.go (b := T104.setTop (mkF m 19 #[.val (.ref a1), .val (.int p2), .val (.int (own_w p2))] [(.int (own_w p2)), (.ref b)])) (fun t k => ?_) ?_
    · show Steps p.tables e below (T104.setTop (mkF m 18 #[.val (.ref a1), .val (.int p2), .val (.int (own_w p2))] [(.ref b)])) _
      refine XS.iloadN X104.here hx rfl (hb hby d3_18) rfl ?_
      show Steps p.tables e below (T104.setTop (mkF m 19 #[.val (.ref a1), .val (.int p2), .val (.int (own_w p2))] [(.int (own_w p2)), (.ref b)])) _
      exact k
    obtain ⟨cl105, Ar105, q105, S105, M105, H105, G105⟩ := id V1
    have hin105 : ¬ ((own_w p2) < 0 ∨ cl105.slots.size ≤ ((own_w p2)).toNatClampNeg) := inb_of S105 (hsel hc11_103).1
    have hat105 : cl105.slots[((own_w p2)).toNatClampNeg]? = some (.long r) := Has.at H105 hin105 (hsel hc11_103).2
    refine EndsQ.go (fun t k => X104.laload hx (j := (own_w p2)) (v := (.long r)) (by rw [e104]; exact Ar105.1) (State.isArrayOf_alike hZ.alike Ar105.2.1) Ar105.2.2 hin105 hat105 (g := (mkF m 19 #[.val (.ref a1), .val (.int p2), .val (.int (own_w p2))] [(.int (own_w p2)), (.ref b)])) rfl rfl (hb hby d3_19) _ k) ?_
    show EndsQ _ _ _ _ _ _ _ (T104.setTop (mkF m 20 #[.val (.ref a1), .val (.int p2), .val (.int (own_w p2))] [(.long r)]))
    refine EndsQ.go (b := T104.setTop (mkF m 26 #[.val (.ref a1), .val (.int p2), .val (.int (own_w p2))] [(.int (lcmpW (((r.toUInt64 >>> (p2 &&& 0x3f).toInt64.toUInt64).toInt64) &&& (1 : Int64)) (0 : Int64)))])) (fun t k => ?_) ?_
    · show Steps p.tables e below (T104.setTop (mkF m 20 #[.val (.ref a1), .val (.int p2), .val (.int (own_w p2))] [(.long r)])) _
      refine XS.iloadN X104.here hx rfl (hb hby d3_20) rfl ?_
      show Steps p.tables e below (T104.setTop (mkF m 21 #[.val (.ref a1), .val (.int p2), .val (.int (own_w p2))] [(.int p2), (.long r)])) _
      refine XS.lushr X104.here hx rfl (hb hby d3_21) rfl ?_
      show Steps p.tables e below (T104.setTop (mkF m 22 #[.val (.ref a1), .val (.int p2), .val (.int (own_w p2))] [(.long ((r.toUInt64 >>> (p2 &&& 0x3f).toInt64.toUInt64).toInt64))])) _
      refine XS.lconst X104.here hx rfl (hb hby d3_22) ?_
      show Steps p.tables e below (T104.setTop (mkF m 23 #[.val (.ref a1), .val (.int p2), .val (.int (own_w p2))] [(.long (1 : Int64)), (.long ((r.toUInt64 >>> (p2 &&& 0x3f).toInt64.toUInt64).toInt64))])) _
      refine XS.land X104.here hx rfl (hb hby d3_23) rfl ?_
      show Steps p.tables e below (T104.setTop (mkF m 24 #[.val (.ref a1), .val (.int p2), .val (.int (own_w p2))] [(.long (((r.toUInt64 >>> (p2 &&& 0x3f).toInt64.toUInt64).toInt64) &&& (1 : Int64)))])) _
      refine XS.lconst X104.here hx rfl (hb hby d3_24) ?_
      show Steps p.tables e below (T104.setTop (mkF m 25 #[.val (.ref a1), .val (.int p2), .val (.int (own_w p2))] [(.long (0 : Int64)), (.long (((r.toUInt64 >>> (p2 &&& 0x3f).toInt64.toUInt64).toInt64) &&& (1 : Int64)))])) _
      refine XS.lcmp X104.here hx rfl (hb hby d3_25) rfl ?_
      show Steps p.tables e below (T104.setTop (mkF m 26 #[.val (.ref a1), .val (.int p2), .val (.int (own_w p2))] [(.int (lcmpW (((r.toUInt64 >>> (p2 &&& 0x3f).toInt64.toUInt64).toInt64) &&& (1 : Int64)) (0 : Int64)))])) _
      exact k
    by_cases hc26_106 : (((r.toUInt64 >>> (p2 &&& 0x3f).toInt64.toUInt64).toInt64) &&& (1 : Int64)) = (0 : Int64)
    · refine EndsQ.go (b := T104.setTop (mkF m 33 #[.val (.ref a1), .val (.int p2), .val (.int (own_w p2))] [])) (fun t k => ?_) ?_
      · show Steps p.tables e below (T104.setTop (mkF m 26 #[.val (.ref a1), .val (.int p2), .val (.int (own_w p2))] [(.int (lcmpW (((r.toUInt64 >>> (p2 &&& 0x3f).toInt64.toUInt64).toInt64) &&& (1 : Int64)) (0 : Int64)))])) _
        refine XS.ifYes X104.here hx rfl (pc0 := 26) (pc' := 33) rfl (hb hby d3_26) rfl ((if0 _ _).trans (teq ((lw_eq (((r.toUInt64 >>> (p2 &&& 0x3f).toInt64.toUInt64).toInt64) &&& (1 : Int64)) (0 : Int64)).mpr hc26_106)).1) (by decide) (by decide) ?_
        show Steps p.tables e below (T104.setTop (mkF m 33 #[.val (.ref a1), .val (.int p2), .val (.int (own_w p2))] [])) _
        exact k
      refine EndsQ.go (b := T104.setTop (mkF m 34 #[.val (.ref a1), .val (.int p2), .val (.int (own_w p2))] [(.int (0 : Int32))])) (fun t k => ?_) ?_
      · show Steps p.tables e below (T104.setTop (mkF m 33 #[.val (.ref a1), .val (.int p2), .val (.int (own_w p2))] [])) _
        refine XS.iconst X104.here hx rfl (hb hby d3_33) ?_
        show Steps p.tables e below (T104.setTop (mkF m 34 #[.val (.ref a1), .val (.int p2), .val (.int (own_w p2))] [(.int (0 : Int32))])) _
        exact k
      refine EndsQ.retN X104 hx Bd.notSynchronized (t := .boolean) Bd.returns (by simp) (hb hby d3_34) (by decide) (by decide) ?_
      show Q3 Z a1 p2 b kB z vs r h0 n0 (some (.int (nar .boolean (0 : Int32)))) T104.heap _
      rw [e104]
      exact ⟨by unfold own_has; rw [if_pos hc11_103, if_pos hc26_106]; rfl, N0, rfl⟩
    · refine EndsQ.go (b := T104.setTop (mkF m 29 #[.val (.ref a1), .val (.int p2), .val (.int (own_w p2))] [])) (fun t k => ?_) ?_
      · show Steps p.tables e below (T104.setTop (mkF m 26 #[.val (.ref a1), .val (.int p2), .val (.int (own_w p2))] [(.int (lcmpW (((r.toUInt64 >>> (p2 &&& 0x3f).toInt64.toUInt64).toInt64) &&& (1 : Int64)) (0 : Int64)))])) _
        refine XS.ifNo X104.here hx rfl (hb hby d3_26) rfl ((if0 _ _).trans (feq (fun q => hc26_106 ((lw_eq (((r.toUInt64 >>> (p2 &&& 0x3f).toInt64.toUInt64).toInt64) &&& (1 : Int64)) (0 : Int64)).mp q))).1) ?_
        show Steps p.tables e below (T104.setTop (mkF m 29 #[.val (.ref a1), .val (.int p2), .val (.int (own_w p2))] [])) _
        exact k
      refine EndsQ.go (b := T104.setTop (mkF m 34 #[.val (.ref a1), .val (.int p2), .val (.int (own_w p2))] [(.int (1 : Int32))])) (fun t k => ?_) ?_
      · show Steps p.tables e below (T104.setTop (mkF m 29 #[.val (.ref a1), .val (.int p2), .val (.int (own_w p2))] [])) _
        refine XS.iconst X104.here hx rfl (hb hby d3_29) ?_
        show Steps p.tables e below (T104.setTop (mkF m 30 #[.val (.ref a1), .val (.int p2), .val (.int (own_w p2))] [(.int (1 : Int32))])) _
        refine XS.goto X104.here hx rfl (pc0 := 30) (pc' := 34) rfl (hb hby d3_30) (by decide) (by decide) ?_
        show Steps p.tables e below (T104.setTop (mkF m 34 #[.val (.ref a1), .val (.int p2), .val (.int (own_w p2))] [(.int (1 : Int32))])) _
        exact k
      refine EndsQ.retN X104 hx Bd.notSynchronized (t := .boolean) Bd.returns (by simp) (hb hby d3_34) (by decide) (by decide) ?_
      show Q3 Z a1 p2 b kB z vs r h0 n0 (some (.int (nar .boolean (1 : Int32)))) T104.heap _
      rw [e104]
      exact ⟨by unfold own_has; rw [if_pos hc11_103, if_neg hc26_106]; rfl, N0, rfl⟩
  · refine EndsQ.go (b := T101.setTop (mkF m 33 #[.val (.ref a1), .val (.int p2), .val (.int (own_w p2))] [])) (fun t k => ?_) ?_
    · show Steps p.tables e below (T101.setTop (mkF m 11 #[.val (.ref a1), .val (.int p2), .val (.int (own_w p2))] [(.int z), (.int (own_w p2))])) _
      refine XS.icmpYes X101.here hx rfl (pc0 := 11) (pc' := 33) rfl (hb hby d3_11) rfl (flt hc11_103).2.1 (by decide) (by decide) ?_
      show Steps p.tables e below (T101.setTop (mkF m 33 #[.val (.ref a1), .val (.int p2), .val (.int (own_w p2))] [])) _
      exact k
    refine EndsQ.go (b := T101.setTop (mkF m 34 #[.val (.ref a1), .val (.int p2), .val (.int (own_w p2))] [(.int (0 : Int32))])) (fun t k => ?_) ?_
    · show Steps p.tables e below (T101.setTop (mkF m 33 #[.val (.ref a1), .val (.int p2), .val (.int (own_w p2))] [])) _
      refine XS.iconst X101.here hx rfl (hb hby d3_33) ?_
      show Steps p.tables e below (T101.setTop (mkF m 34 #[.val (.ref a1), .val (.int p2), .val (.int (own_w p2))] [(.int (0 : Int32))])) _
      exact k
    refine EndsQ.retN X101 hx Bd.notSynchronized (t := .boolean) Bd.returns (by simp) (hb hby d3_34) (by decide) (by decide) ?_
    show Q3 Z a1 p2 b kB z vs r h0 n0 (some (.int (nar .boolean (0 : Int32)))) T101.heap _
    rw [e101]
    exact ⟨by unfold own_has; rw [if_neg hc11_103]; rfl, N0, rfl⟩
theorem ef_0 (m : MethodId) (x0 : Int64) (x1 : Int64) (x2 : Int64) (x3 : Int32) (x4 : Int32) (x5 : Int32) : entryFrame m #[(.long x0), (.long x1), (.long x2), (.int x3), (.int x4), (.int x5)] maxLocals = mkF m 0 #[.val (.long x0), .second, .val (.long x1), .second, .val (.long x2), .second, .val (.int x3), .val (.int x4), .val (.int x5), .unset, .unset, .unset, .unset, .unset, .unset, .unset, .unset, .unset] [] := by first | (simp [entryFrame, mkF, argsToLocals, Value.category, maxLocals]; done) | rfl
def Q0 (Z : State) (q1 : Int64) (q2 : Int64) (q3 : Int64) (p4 : Int32) (p5 : Int32) (p6 : Int32) (h0 : Heap) (n0 : Nat) (v : Option Value) (h : Heap) (L : List Loc) : Prop := v = some (.int 1) ∧ Fr n0 L
set_option maxRecDepth 65536 in
set_option maxHeartbeats 40000000 in
theorem rm0 (l : Launch) (Z : State) (a0 : Array Value) (hw : ∀ d ∈ tables_1, d.before a0 Z = true) (ws : List Jvm.Cond) (q1 : Int64) (q2 : Int64) (q3 : Int64) (p4 : Int32) (p5 : Int32) (p6 : Int32) (h0 : Heap) (n0 : Nat) (Z0 : n0 ≤ h0.size) :
    MetFree l x (head1 (Jvm.Cond.code x code maxLocals ret :: ws) room_1) (fun a U => a = #[(.long q1), (.long q2), (.long q3), (.int p4), (.int p5), (.int p6)] ∧ Z.Warmed39 U.vm ∧ U.heap = h0) (fun _ _ _ _ _ => True) (fun _ U o U' => ∃ v L, o = .returned v ∧ Q0 Z q1 q2 q3 p4 p5 p6 h0 n0 v U'.heap L ∧ FrameEnd U o U' L 16 128) := by
  refine MetFree.of_bodySF (plainFor_of_name pn_0) hisR ?_
  intro p e s m args below meth c s₁ Bd hml0 hP hK
  obtain ⟨rfl, hZ, hh⟩ := hP
  have hx := Bd.exec
  have hby := Bd.bytes
  have hml : c.maxLocals = 18 := hml0
  have hown : s.vm.findClass "com/example/sextant/sextant/ValueSetContainsPinLaw" = some m.cls := findClass_of_methodNamed Bd.named
  have hnm := (name_of_methodNamed Bd.named Bd.method).1
  have X0 : Stand p l e room_1 s m #[(.long q1), (.long q2), (.long q3), (.int p4), (.int p5), (.int p6)] below meth c s₁ [] 0 0 := Stand.of_body Bd
  have e0 : s₁.heap = h0 := by rw [← hh, Bd.state]; rfl
  have N0 := Fr.nil n0
  show EndsQ p.tables e below s (fun v h L => Q0 Z q1 q2 q3 p4 p5 p6 h0 n0 v h L) 16 128 _
  refine EndsQ.go (b := s₁.setTop (mkF m 0 #[.val (.long q1), .second, .val (.long q2), .second, .val (.long q3), .second, .val (.int p4), .val (.int p5), .val (.int p6), .unset, .unset, .unset, .unset, .unset, .unset, .unset, .unset, .unset] [])) (fun t k => castTop (ef_0 m q1 q2 q3 p4 p5 p6) k) ?_
  refine EndsQ.go (b := s₁.setTop (mkF m 6 #[.val (.long q1), .second, .val (.long q2), .second, .val (.long q3), .second, .val (.int p4), .val (.int p5), .val (.int p6), .val (.int (p4 &&& (3 : Int32))), .unset, .unset, .unset, .unset, .unset, .unset, .unset, .unset] [])) (fun t k => ?_) ?_
  · show Steps p.tables e below (s₁.setTop (mkF m 0 #[.val (.long q1), .second, .val (.long q2), .second, .val (.long q3), .second, .val (.int p4), .val (.int p5), .val (.int p6), .unset, .unset, .unset, .unset, .unset, .unset, .unset, .unset, .unset] [])) _
    refine XS.iload X0.here hx rfl (hb hby at_0) rfl ?_
    show Steps p.tables e below (s₁.setTop (mkF m 2 #[.val (.long q1), .second, .val (.long q2), .second, .val (.long q3), .second, .val (.int p4), .val (.int p5), .val (.int p6), .unset, .unset, .unset, .unset, .unset, .unset, .unset, .unset, .unset] [(.int p4)])) _
    refine XS.iconst X0.here hx rfl (hb hby at_2) ?_
    show Steps p.tables e below (s₁.setTop (mkF m 3 #[.val (.long q1), .second, .val (.long q2), .second, .val (.long q3), .second, .val (.int p4), .val (.int p5), .val (.int p6), .unset, .unset, .unset, .unset, .unset, .unset, .unset, .unset, .unset] [(.int (3 : Int32)), (.int p4)])) _
    refine XS.iand X0.here hx rfl (hb hby at_3) rfl ?_
    show Steps p.tables e below (s₁.setTop (mkF m 4 #[.val (.long q1), .second, .val (.long q2), .second, .val (.long q3), .second, .val (.int p4), .val (.int p5), .val (.int p6), .unset, .unset, .unset, .unset, .unset, .unset, .unset, .unset, .unset] [(.int (p4 &&& (3 : Int32)))])) _
    refine XS.istore X0.here hx rfl (hb hby at_4) rfl (l' := #[.val (.long q1), .second, .val (.long q2), .second, .val (.long q3), .second, .val (.int p4), .val (.int p5), .val (.int p6), .val (.int (p4 &&& (3 : Int32))), .unset, .unset, .unset, .unset, .unset, .unset, .unset, .unset]) rfl ?_
    show Steps p.tables e below (s₁.setTop (mkF m 6 #[.val (.long q1), .second, .val (.long q2), .second, .val (.long q3), .second, .val (.int p4), .val (.int p5), .val (.int p6), .val (.int (p4 &&& (3 : Int32))), .unset, .unset, .unset, .unset, .unset, .unset, .unset, .unset] [])) _
    exact k
  generalize hv_nn : (p4 &&& (3 : Int32)) = nn
  show EndsQ _ _ _ _ _ _ _ (s₁.setTop (mkF m 6 #[.val (.long q1), .second, .val (.long q2), .second, .val (.long q3), .second, .val (.int p4), .val (.int p5), .val (.int p6), .val (.int nn), .unset, .unset, .unset, .unset, .unset, .unset, .unset, .unset] []))
  have hk4 := own_n3 p4
  rw [hv_nn] at hk4
  rcases hk4 with hk0 | hk1 | hk2 | hk3
  · subst hk0
    show EndsQ _ _ _ _ _ _ _ (s₁.setTop (mkF m 6 #[.val (.long q1), .second, .val (.long q2), .second, .val (.long q3), .second, .val (.int p4), .val (.int p5), .val (.int p6), .val (.int (0 : Int32)), .unset, .unset, .unset, .unset, .unset, .unset, .unset, .unset] []))
    refine EndsQ.go (b := s₁.setTop (mkF m 8 #[.val (.long q1), .second, .val (.long q2), .second, .val (.long q3), .second, .val (.int p4), .val (.int p5), .val (.int p6), .val (.int (0 : Int32)), .unset, .unset, .unset, .unset, .unset, .unset, .unset, .unset] [(.int (0 : Int32))])) (fun t k => ?_) ?_
    · show Steps p.tables e below (s₁.setTop (mkF m 6 #[.val (.long q1), .second, .val (.long q2), .second, .val (.long q3), .second, .val (.int p4), .val (.int p5), .val (.int p6), .val (.int (0 : Int32)), .unset, .unset, .unset, .unset, .unset, .unset, .unset, .unset] [])) _
      refine XS.iload X0.here hx rfl (hb hby at_6) rfl ?_
      show Steps p.tables e below (s₁.setTop (mkF m 8 #[.val (.long q1), .second, .val (.long q2), .second, .val (.long q3), .second, .val (.int p4), .val (.int p5), .val (.int p6), .val (.int (0 : Int32)), .unset, .unset, .unset, .unset, .unset, .unset, .unset, .unset] [(.int (0 : Int32))])) _
      exact k
    obtain ⟨T101, h101, k101, X101, e101, E101, A101, st101⟩ := newP X0 hx hZ (hw _ (List.mem_of_getElem? (i := 0) rfl)) e0 (g := (mkF m 8 #[.val (.long q1), .second, .val (.long q2), .second, .val (.long q3), .second, .val (.int p4), .val (.int p5), .val (.int p6), .val (.int (0 : Int32)), .unset, .unset, .unset, .unset, .unset, .unset, .unset, .unset] [(.int (0 : Int32))])) rfl (hb hby at_8) rfl (by decide) (cap := 0) (by decide) (by decide) (by decide) (by decide)
    obtain ⟨b101, g101⟩ : ∃ z, z = h0.size := ⟨_, rfl⟩
    rw [← g101] at A101 st101
    have gn101 : n0 ≤ b101 := Nat.le_trans Z0 (Nat.le_of_eq g101.symm)
    have f102 : n0 ≤ h101.size := Nat.le_trans Z0 E101.1
    have f103 : Arv Z h101 b101 k101 .long (0 : Int32) [] (.long (0 : Int64)) := (Arv.new A101 (by decide)).pad (pad_rep [] (.long (0 : Int64)) 0)
    refine EndsQ.go st101 ?_
    show EndsQ _ _ _ _ _ _ _ (T101.setTop (mkF m 10 #[.val (.long q1), .second, .val (.long q2), .second, .val (.long q3), .second, .val (.int p4), .val (.int p5), .val (.int p6), .val (.int (0 : Int32)), .unset, .unset, .unset, .unset, .unset, .unset, .unset, .unset] [(.ref b101)]))
    refine EndsQ.go (b := T101.setTop (mkF m 45 #[.val (.long q1), .second, .val (.long q2), .second, .val (.long q3), .second, .val (.int p4), .val (.int p5), .val (.int p6), .val (.int (0 : Int32)), .val (.ref b101), .unset, .unset, .unset, .unset, .unset, .unset, .unset] [])) (fun t k => ?_) ?_
    · show Steps p.tables e below (T101.setTop (mkF m 10 #[.val (.long q1), .second, .val (.long q2), .second, .val (.long q3), .second, .val (.int p4), .val (.int p5), .val (.int p6), .val (.int (0 : Int32)), .unset, .unset, .unset, .unset, .unset, .unset, .unset, .unset] [(.ref b101)])) _
      refine XS.astore X101.here hx rfl (hb hby at_10) rfl rfl (l' := #[.val (.long q1), .second, .val (.long q2), .second, .val (.long q3), .second, .val (.int p4), .val (.int p5), .val (.int p6), .val (.int (0 : Int32)), .val (.ref b101), .unset, .unset, .unset, .unset, .unset, .unset, .unset]) rfl ?_
      show Steps p.tables e below (T101.setTop (mkF m 12 #[.val (.long q1), .second, .val (.long q2), .second, .val (.long q3), .second, .val (.int p4), .val (.int p5), .val (.int p6), .val (.int (0 : Int32)), .val (.ref b101), .unset, .unset, .unset, .unset, .unset, .unset, .unset] [])) _
      refine XS.iload X101.here hx rfl (hb hby at_12) rfl ?_
      show Steps p.tables e below (T101.setTop (mkF m 14 #[.val (.long q1), .second, .val (.long q2), .second, .val (.long q3), .second, .val (.int p4), .val (.int p5), .val (.int p6), .val (.int (0 : Int32)), .val (.ref b101), .unset, .unset, .unset, .unset, .unset, .unset, .unset] [(.int (0 : Int32))])) _
      refine XS.ifYes X101.here hx rfl (pc0 := 14) (pc' := 22) rfl (hb hby at_14) rfl ((if0 _ _).trans (flt (by decide)).2.2.2) (by decide) (by decide) ?_
      show Steps p.tables e below (T101.setTop (mkF m 22 #[.val (.long q1), .second, .val (.long q2), .second, .val (.long q3), .second, .val (.int p4), .val (.int p5), .val (.int p6), .val (.int (0 : Int32)), .val (.ref b101), .unset, .unset, .unset, .unset, .unset, .unset, .unset] [])) _
      refine XS.iload X101.here hx rfl (hb hby at_22) rfl ?_
      show Steps p.tables e below (T101.setTop (mkF m 24 #[.val (.long q1), .second, .val (.long q2), .second, .val (.long q3), .second, .val (.int p4), .val (.int p5), .val (.int p6), .val (.int (0 : Int32)), .val (.ref b101), .unset, .unset, .unset, .unset, .unset, .unset, .unset] [(.int (0 : Int32))])) _
      refine XS.iconst X101.here hx rfl (hb hby at_24) ?_
      show Steps p.tables e below (T101.setTop (mkF m 25 #[.val (.long q1), .second, .val (.long q2), .second, .val (.long q3), .second, .val (.int p4), .val (.int p5), .val (.int p6), .val (.int (0 : Int32)), .val (.ref b101), .unset, .unset, .unset, .unset, .unset, .unset, .unset] [(.int (1 : Int32)), (.int (0 : Int32))])) _
      refine XS.icmpYes X101.here hx rfl (pc0 := 25) (pc' := 33) rfl (hb hby at_25) rfl (flt (by decide)).2.2.2 (by decide) (by decide) ?_
      show Steps p.tables e below (T101.setTop (mkF m 33 #[.val (.long q1), .second, .val (.long q2), .second, .val (.long q3), .second, .val (.int p4), .val (.int p5), .val (.int p6), .val (.int (0 : Int32)), .val (.ref b101), .unset, .unset, .unset, .unset, .unset, .unset, .unset] [])) _
      refine XS.iload X101.here hx rfl (hb hby at_33) rfl ?_
      show Steps p.tables e below (T101.setTop (mkF m 35 #[.val (.long q1), .second, .val (.long q2), .second, .val (.long q3), .second, .val (.int p4), .val (.int p5), .val (.int p6), .val (.int (0 : Int32)), .val (.ref b101), .unset, .unset, .unset, .unset, .unset, .unset, .unset] [(.int (0 : Int32))])) _
      refine XS.iconst X101.here hx rfl (hb hby at_35) ?_
      show Steps p.tables e below (T101.setTop (mkF m 36 #[.val (.long q1), .second, .val (.long q2), .second, .val (.long q3), .second, .val (.int p4), .val (.int p5), .val (.int p6), .val (.int (0 : Int32)), .val (.ref b101), .unset, .unset, .unset, .unset, .unset, .unset, .unset] [(.int (2 : Int32)), (.int (0 : Int32))])) _
      refine XS.icmpYes X101.here hx rfl (pc0 := 36) (pc' := 45) rfl (hb hby at_36) rfl (flt (by decide)).2.2.2 (by decide) (by decide) ?_
      show Steps p.tables e below (T101.setTop (mkF m 45 #[.val (.long q1), .second, .val (.long q2), .second, .val (.long q3), .second, .val (.int p4), .val (.int p5), .val (.int p6), .val (.int (0 : Int32)), .val (.ref b101), .unset, .unset, .unset, .unset, .unset, .unset, .unset] [])) _
      exact k
    obtain ⟨T104, h104, X104, e104, E104, A104, D104, -, st104⟩ := newO X101 hx hZ hown (hw _ (List.mem_of_getElem? (i := 1) rfl)) (hw _ (List.mem_of_getElem? (i := 2) rfl)) (hw _ (List.mem_of_getElem? (i := 3) rfl)) e101 (g := (mkF m 45 #[.val (.long q1), .second, .val (.long q2), .second, .val (.long q3), .second, .val (.int p4), .val (.int p5), .val (.int p6), .val (.int (0 : Int32)), .val (.ref b101), .unset, .unset, .unset, .unset, .unset, .unset, .unset] [])) rfl (hb hby at_45) (by decide) (by decide)
    obtain ⟨b104, g104⟩ : ∃ z, z = h101.size := ⟨_, rfl⟩
    rw [← g104] at A104 D104 st104
    have gn104 : n0 ≤ b104 := Nat.le_trans f102 (Nat.le_of_eq g104.symm)
    have ne104_b101 : b101 ≠ b104 := Nat.ne_of_lt (Nat.lt_of_lt_of_le f103.lt (Nat.le_of_eq g104.symm))
    have f105 : n0 ≤ h104.size := Nat.le_trans f102 E104.1
    have f106 : Arv Z h104 b101 k101 .long (0 : Int32) [] (.long (0 : Int64)) := f103.ext E104
    have f107 : Fld Z h104 b104 "com/example/sextant/sextant/ValueSet" "words" "[J" .null := D104 (Or.inr (hw _ (List.mem_of_getElem? (i := 11) rfl))) (ty := (.array .long)) (by decide)
    refine EndsQ.go st104 ?_
    show EndsQ _ _ _ _ _ _ _ (T104.setTop (mkF m 48 #[.val (.long q1), .second, .val (.long q2), .second, .val (.long q3), .second, .val (.int p4), .val (.int p5), .val (.int p6), .val (.int (0 : Int32)), .val (.ref b101), .unset, .unset, .unset, .unset, .unset, .unset, .unset] [(.ref b104)]))
    refine EndsQ.go (b := T104.setTop (mkF m 51 #[.val (.long q1), .second, .val (.long q2), .second, .val (.long q3), .second, .val (.int p4), .val (.int p5), .val (.int p6), .val (.int (0 : Int32)), .val (.ref b101), .unset, .unset, .unset, .unset, .unset, .unset, .unset] [(.ref b101), (.ref b104), (.ref b104)])) (fun t k => ?_) ?_
    · show Steps p.tables e below (T104.setTop (mkF m 48 #[.val (.long q1), .second, .val (.long q2), .second, .val (.long q3), .second, .val (.int p4), .val (.int p5), .val (.int p6), .val (.int (0 : Int32)), .val (.ref b101), .unset, .unset, .unset, .unset, .unset, .unset, .unset] [(.ref b104)])) _
      refine XS.dup X104.here hx rfl (hb hby at_48) rfl rfl ?_
      show Steps p.tables e below (T104.setTop (mkF m 49 #[.val (.long q1), .second, .val (.long q2), .second, .val (.long q3), .second, .val (.int p4), .val (.int p5), .val (.int p6), .val (.int (0 : Int32)), .val (.ref b101), .unset, .unset, .unset, .unset, .unset, .unset, .unset] [(.ref b104), (.ref b104)])) _
      refine XS.aload X104.here hx rfl (hb hby at_49) rfl rfl ?_
      show Steps p.tables e below (T104.setTop (mkF m 51 #[.val (.long q1), .second, .val (.long q2), .second, .val (.long q3), .second, .val (.int p4), .val (.int p5), .val (.int p6), .val (.int (0 : Int32)), .val (.ref b101), .unset, .unset, .unset, .unset, .unset, .unset, .unset] [(.ref b101), (.ref b104), (.ref b104)])) _
      exact k
    obtain ⟨_, _, ⟨T108, L108, kk108, nn108⟩, -, X108, ⟨Lc108, hQ108, l108, y108, z108⟩, st108⟩ := X104.specialBack hx (y := (⟨"com/example/sextant/sextant/ValueSet", "<init>", "([J)V"⟩ : MethodName)) rfl hown (mvT hZ (hw _ (List.mem_of_getElem? (i := 4) rfl))) (mvT hZ (hw _ (List.mem_of_getElem? (i := 5) rfl))) (mvT hZ (hw _ (List.mem_of_getElem? (i := 6) rfl))) (by decide) (backOf (W := 1) (rmI0 l Z a0 hw [] b104 b101 k101  h104 n0 f105 f107 A104 gn104 f106 (Ne.symm ne104_b101)) hZ (hw _ (List.mem_of_getElem? (i := 6) rfl)) (hw _ (List.mem_of_getElem? (i := 3) rfl)) (by decide) (by decide)) (g := (mkF m 51 #[.val (.long q1), .second, .val (.long q2), .second, .val (.long q3), .second, .val (.int p4), .val (.int p5), .val (.int p6), .val (.int (0 : Int32)), .val (.ref b101), .unset, .unset, .unset, .unset, .unset, .unset, .unset] [(.ref b101), (.ref b104), (.ref b104)])) rfl (by rw [hml]; rfl) (Steps.refl _) (a := b104) (argsL := [(.ref b101)]) (rest := [(.ref b104)]) (lenOf pd_2 rfl) rfl (by show 2 * 0 + _ ≤ _; exact Nat.le_of_eq rfl) (hb hby at_51) (fun _ _ => ⟨rfl, e104, (by decide : 2 + 1 ≤ _), (by decide : 1 + 2 ≤ _)⟩)
    dsimp only [Pt.U, Pt.locs, Pt.cells, Pt.slots] at X108 l108 y108 z108 st108 hQ108
    subst l108 y108 z108
    obtain ⟨c108, kc108, m108, vs108, rfl, Nq108, Kc108, Ex108, Fx108, Vx108, rel108⟩ := hQ108
    have N108 := Fr.app N0 Nq108
    have f109 : n0 ≤ T108.heap.size := Nat.le_trans f105 Kc108.1
    refine EndsQ.go (fun t k => st108.trans k) ?_
    show EndsQ _ _ _ _ _ _ _ (T108.setTop (mkF m 54 #[.val (.long q1), .second, .val (.long q2), .second, .val (.long q3), .second, .val (.int p4), .val (.int p5), .val (.int p6), .val (.int (0 : Int32)), .val (.ref b101), .unset, .unset, .unset, .unset, .unset, .unset, .unset] [(.ref b104)]))
    rcases rel108 with ⟨rfl, rfl⟩
    · have ht0 := trivial
      refine EndsQ.go (b := T108.setTop (mkF m 60 #[.val (.long q1), .second, .val (.long q2), .second, .val (.long q3), .second, .val (.int p4), .val (.int p5), .val (.int p6), .val (.int (0 : Int32)), .val (.ref b101), .val (.ref b104), .unset, .unset, .unset, .unset, .unset, .unset] [(.int (p6 &&& (1 : Int32)))])) (fun t k => ?_) ?_
      · show Steps p.tables e below (T108.setTop (mkF m 54 #[.val (.long q1), .second, .val (.long q2), .second, .val (.long q3), .second, .val (.int p4), .val (.int p5), .val (.int p6), .val (.int (0 : Int32)), .val (.ref b101), .unset, .unset, .unset, .unset, .unset, .unset, .unset] [(.ref b104)])) _
        refine XS.astore X108.here hx rfl (hb hby at_54) rfl rfl (l' := #[.val (.long q1), .second, .val (.long q2), .second, .val (.long q3), .second, .val (.int p4), .val (.int p5), .val (.int p6), .val (.int (0 : Int32)), .val (.ref b101), .val (.ref b104), .unset, .unset, .unset, .unset, .unset, .unset]) rfl ?_
        show Steps p.tables e below (T108.setTop (mkF m 56 #[.val (.long q1), .second, .val (.long q2), .second, .val (.long q3), .second, .val (.int p4), .val (.int p5), .val (.int p6), .val (.int (0 : Int32)), .val (.ref b101), .val (.ref b104), .unset, .unset, .unset, .unset, .unset, .unset] [])) _
        refine XS.iload X108.here hx rfl (hb hby at_56) rfl ?_
        show Steps p.tables e below (T108.setTop (mkF m 58 #[.val (.long q1), .second, .val (.long q2), .second, .val (.long q3), .second, .val (.int p4), .val (.int p5), .val (.int p6), .val (.int (0 : Int32)), .val (.ref b101), .val (.ref b104), .unset, .unset, .unset, .unset, .unset, .unset] [(.int p6)])) _
        refine XS.iconst X108.here hx rfl (hb hby at_58) ?_
        show Steps p.tables e below (T108.setTop (mkF m 59 #[.val (.long q1), .second, .val (.long q2), .second, .val (.long q3), .second, .val (.int p4), .val (.int p5), .val (.int p6), .val (.int (0 : Int32)), .val (.ref b101), .val (.ref b104), .unset, .unset, .unset, .unset, .unset, .unset] [(.int (1 : Int32)), (.int p6)])) _
        refine XS.iand X108.here hx rfl (hb hby at_59) rfl ?_
        show Steps p.tables e below (T108.setTop (mkF m 60 #[.val (.long q1), .second, .val (.long q2), .second, .val (.long q3), .second, .val (.int p4), .val (.int p5), .val (.int p6), .val (.int (0 : Int32)), .val (.ref b101), .val (.ref b104), .unset, .unset, .unset, .unset, .unset, .unset] [(.int (p6 &&& (1 : Int32)))])) _
        exact k
      refine EndsQ.go (b := T108.setTop (mkF m 77 #[.val (.long q1), .second, .val (.long q2), .second, .val (.long q3), .second, .val (.int p4), .val (.int p5), .val (.int p6), .val (.int (0 : Int32)), .val (.ref b101), .val (.ref b104), .unset, .unset, .unset, .unset, .unset, .unset] [(.int (if (p6 &&& (1 : Int32)) = (0 : Int32) then (p5 &&& (255 : Int32)) else (p5 &&& (2147483647 : Int32))))])) (fun t k => ?_) ?_
      · by_cases hc60_110 : (p6 &&& (1 : Int32)) = (0 : Int32)
        · refine XS.ifYes X108.here hx rfl (pc0 := 60) (pc' := 71) rfl (hb hby at_60) rfl ((if0 _ _).trans (teq hc60_110).1) (by decide) (by decide) ?_
          show Steps p.tables e below (T108.setTop (mkF m 71 #[.val (.long q1), .second, .val (.long q2), .second, .val (.long q3), .second, .val (.int p4), .val (.int p5), .val (.int p6), .val (.int (0 : Int32)), .val (.ref b101), .val (.ref b104), .unset, .unset, .unset, .unset, .unset, .unset] [])) _
          refine XS.iload X108.here hx rfl (hb hby at_71) rfl ?_
          show Steps p.tables e below (T108.setTop (mkF m 73 #[.val (.long q1), .second, .val (.long q2), .second, .val (.long q3), .second, .val (.int p4), .val (.int p5), .val (.int p6), .val (.int (0 : Int32)), .val (.ref b101), .val (.ref b104), .unset, .unset, .unset, .unset, .unset, .unset] [(.int p5)])) _
          refine XS.sipush X108.here hx rfl (hb hby at_73) ?_
          show Steps p.tables e below (T108.setTop (mkF m 76 #[.val (.long q1), .second, .val (.long q2), .second, .val (.long q3), .second, .val (.int p4), .val (.int p5), .val (.int p6), .val (.int (0 : Int32)), .val (.ref b101), .val (.ref b104), .unset, .unset, .unset, .unset, .unset, .unset] [(.int (255 : Int32)), (.int p5)])) _
          refine XS.iand X108.here hx rfl (hb hby at_76) rfl ?_
          show Steps p.tables e below (T108.setTop (mkF m 77 #[.val (.long q1), .second, .val (.long q2), .second, .val (.long q3), .second, .val (.int p4), .val (.int p5), .val (.int p6), .val (.int (0 : Int32)), .val (.ref b101), .val (.ref b104), .unset, .unset, .unset, .unset, .unset, .unset] [(.int (p5 &&& (255 : Int32)))])) _
          have j0 : (if (p6 &&& (1 : Int32)) = (0 : Int32) then (p5 &&& (255 : Int32)) else (p5 &&& (2147483647 : Int32))) = (p5 &&& (255 : Int32)) := by rw [if_pos hc60_110]
          rw [j0] at k
          exact k
        · refine XS.ifNo X108.here hx rfl (hb hby at_60) rfl ((if0 _ _).trans (feq hc60_110).1) ?_
          show Steps p.tables e below (T108.setTop (mkF m 63 #[.val (.long q1), .second, .val (.long q2), .second, .val (.long q3), .second, .val (.int p4), .val (.int p5), .val (.int p6), .val (.int (0 : Int32)), .val (.ref b101), .val (.ref b104), .unset, .unset, .unset, .unset, .unset, .unset] [])) _
          refine XS.iload X108.here hx rfl (hb hby at_63) rfl ?_
          show Steps p.tables e below (T108.setTop (mkF m 65 #[.val (.long q1), .second, .val (.long q2), .second, .val (.long q3), .second, .val (.int p4), .val (.int p5), .val (.int p6), .val (.int (0 : Int32)), .val (.ref b101), .val (.ref b104), .unset, .unset, .unset, .unset, .unset, .unset] [(.int p5)])) _
          refine X108.ldcInt hx hown (mvT hZ (hw _ (List.mem_of_getElem? (i := 12) rfl))) (g := (mkF m 65 #[.val (.long q1), .second, .val (.long q2), .second, .val (.long q3), .second, .val (.int p4), .val (.int p5), .val (.int p6), .val (.int (0 : Int32)), .val (.ref b101), .val (.ref b104), .unset, .unset, .unset, .unset, .unset, .unset] [(.int p5)])) rfl (hb hby at_65) _ ?_
          show Steps p.tables e below (T108.setTop (mkF m 67 #[.val (.long q1), .second, .val (.long q2), .second, .val (.long q3), .second, .val (.int p4), .val (.int p5), .val (.int p6), .val (.int (0 : Int32)), .val (.ref b101), .val (.ref b104), .unset, .unset, .unset, .unset, .unset, .unset] [(.int (2147483647 : Int32)), (.int p5)])) _
          refine XS.iand X108.here hx rfl (hb hby at_67) rfl ?_
          show Steps p.tables e below (T108.setTop (mkF m 68 #[.val (.long q1), .second, .val (.long q2), .second, .val (.long q3), .second, .val (.int p4), .val (.int p5), .val (.int p6), .val (.int (0 : Int32)), .val (.ref b101), .val (.ref b104), .unset, .unset, .unset, .unset, .unset, .unset] [(.int (p5 &&& (2147483647 : Int32)))])) _
          refine XS.goto X108.here hx rfl (pc0 := 68) (pc' := 77) rfl (hb hby at_68) (by decide) (by decide) ?_
          show Steps p.tables e below (T108.setTop (mkF m 77 #[.val (.long q1), .second, .val (.long q2), .second, .val (.long q3), .second, .val (.int p4), .val (.int p5), .val (.int p6), .val (.int (0 : Int32)), .val (.ref b101), .val (.ref b104), .unset, .unset, .unset, .unset, .unset, .unset] [(.int (p5 &&& (2147483647 : Int32)))])) _
          have j0 : (if (p6 &&& (1 : Int32)) = (0 : Int32) then (p5 &&& (255 : Int32)) else (p5 &&& (2147483647 : Int32))) = (p5 &&& (2147483647 : Int32)) := by rw [if_neg hc60_110]
          rw [j0] at k
          exact k
      generalize hv_vv : (if (p6 &&& (1 : Int32)) = (0 : Int32) then (p5 &&& (255 : Int32)) else (p5 &&& (2147483647 : Int32))) = vv
      have hb_v : 0 ≤ vv.toInt := by rw [← hv_vv]; exact own_v p5 p6
      have hkw := own_kw vv hb_v
      show EndsQ _ _ _ _ _ _ _ (T108.setTop (mkF m 77 #[.val (.long q1), .second, .val (.long q2), .second, .val (.long q3), .second, .val (.int p4), .val (.int p5), .val (.int p6), .val (.int (0 : Int32)), .val (.ref b101), .val (.ref b104), .unset, .unset, .unset, .unset, .unset, .unset] [(.int vv)]))
      refine EndsQ.go (b := T108.setTop (mkF m 86 #[.val (.long q1), .second, .val (.long q2), .second, .val (.long q3), .second, .val (.int p4), .val (.int p5), .val (.int p6), .val (.int (0 : Int32)), .val (.ref b101), .val (.ref b104), .val (.int vv), .val (.int (vv / (64 : Int32))), .unset, .unset, .unset, .unset] [])) (fun t k => ?_) ?_
      · show Steps p.tables e below (T108.setTop (mkF m 77 #[.val (.long q1), .second, .val (.long q2), .second, .val (.long q3), .second, .val (.int p4), .val (.int p5), .val (.int p6), .val (.int (0 : Int32)), .val (.ref b101), .val (.ref b104), .unset, .unset, .unset, .unset, .unset, .unset] [(.int vv)])) _
        refine XS.istore X108.here hx rfl (hb hby at_77) rfl (l' := #[.val (.long q1), .second, .val (.long q2), .second, .val (.long q3), .second, .val (.int p4), .val (.int p5), .val (.int p6), .val (.int (0 : Int32)), .val (.ref b101), .val (.ref b104), .val (.int vv), .unset, .unset, .unset, .unset, .unset]) rfl ?_
        show Steps p.tables e below (T108.setTop (mkF m 79 #[.val (.long q1), .second, .val (.long q2), .second, .val (.long q3), .second, .val (.int p4), .val (.int p5), .val (.int p6), .val (.int (0 : Int32)), .val (.ref b101), .val (.ref b104), .val (.int vv), .unset, .unset, .unset, .unset, .unset] [])) _
        refine XS.iload X108.here hx rfl (hb hby at_79) rfl ?_
        show Steps p.tables e below (T108.setTop (mkF m 81 #[.val (.long q1), .second, .val (.long q2), .second, .val (.long q3), .second, .val (.int p4), .val (.int p5), .val (.int p6), .val (.int (0 : Int32)), .val (.ref b101), .val (.ref b104), .val (.int vv), .unset, .unset, .unset, .unset, .unset] [(.int vv)])) _
        refine XS.bipush X108.here hx rfl (hb hby at_81) ?_
        show Steps p.tables e below (T108.setTop (mkF m 83 #[.val (.long q1), .second, .val (.long q2), .second, .val (.long q3), .second, .val (.int p4), .val (.int p5), .val (.int p6), .val (.int (0 : Int32)), .val (.ref b101), .val (.ref b104), .val (.int vv), .unset, .unset, .unset, .unset, .unset] [(.int (64 : Int32)), (.int vv)])) _
        refine XS.idiv X108.here hx rfl (hb hby at_83) rfl (by decide) ?_
        show Steps p.tables e below (T108.setTop (mkF m 84 #[.val (.long q1), .second, .val (.long q2), .second, .val (.long q3), .second, .val (.int p4), .val (.int p5), .val (.int p6), .val (.int (0 : Int32)), .val (.ref b101), .val (.ref b104), .val (.int vv), .unset, .unset, .unset, .unset, .unset] [(.int (vv / (64 : Int32)))])) _
        refine XS.istore X108.here hx rfl (hb hby at_84) rfl (l' := #[.val (.long q1), .second, .val (.long q2), .second, .val (.long q3), .second, .val (.int p4), .val (.int p5), .val (.int p6), .val (.int (0 : Int32)), .val (.ref b101), .val (.ref b104), .val (.int vv), .val (.int (vv / (64 : Int32))), .unset, .unset, .unset, .unset]) rfl ?_
        show Steps p.tables e below (T108.setTop (mkF m 86 #[.val (.long q1), .second, .val (.long q2), .second, .val (.long q3), .second, .val (.int p4), .val (.int p5), .val (.int p6), .val (.int (0 : Int32)), .val (.ref b101), .val (.ref b104), .val (.int vv), .val (.int (vv / (64 : Int32))), .unset, .unset, .unset, .unset] [])) _
        exact k
      generalize hv_kk : (vv / (64 : Int32)) = kk
      rw [hv_kk] at hkw
      show EndsQ _ _ _ _ _ _ _ (T108.setTop (mkF m 86 #[.val (.long q1), .second, .val (.long q2), .second, .val (.long q3), .second, .val (.int p4), .val (.int p5), .val (.int p6), .val (.int (0 : Int32)), .val (.ref b101), .val (.ref b104), .val (.int vv), .val (.int kk), .unset, .unset, .unset, .unset] []))
      refine EndsQ.go (b := T108.setTop (mkF m 93 #[.val (.long q1), .second, .val (.long q2), .second, .val (.long q3), .second, .val (.int p4), .val (.int p5), .val (.int p6), .val (.int (0 : Int32)), .val (.ref b101), .val (.ref b104), .val (.int vv), .val (.int kk), .val (.int (vv % (64 : Int32))), .unset, .unset, .unset] [])) (fun t k => ?_) ?_
      · show Steps p.tables e below (T108.setTop (mkF m 86 #[.val (.long q1), .second, .val (.long q2), .second, .val (.long q3), .second, .val (.int p4), .val (.int p5), .val (.int p6), .val (.int (0 : Int32)), .val (.ref b101), .val (.ref b104), .val (.int vv), .val (.int kk), .unset, .unset, .unset, .unset] [])) _
        refine XS.iload X108.here hx rfl (hb hby at_86) rfl ?_
        show Steps p.tables e below (T108.setTop (mkF m 88 #[.val (.long q1), .second, .val (.long q2), .second, .val (.long q3), .second, .val (.int p4), .val (.int p5), .val (.int p6), .val (.int (0 : Int32)), .val (.ref b101), .val (.ref b104), .val (.int vv), .val (.int kk), .unset, .unset, .unset, .unset] [(.int vv)])) _
        refine XS.bipush X108.here hx rfl (hb hby at_88) ?_
        show Steps p.tables e below (T108.setTop (mkF m 90 #[.val (.long q1), .second, .val (.long q2), .second, .val (.long q3), .second, .val (.int p4), .val (.int p5), .val (.int p6), .val (.int (0 : Int32)), .val (.ref b101), .val (.ref b104), .val (.int vv), .val (.int kk), .unset, .unset, .unset, .unset] [(.int (64 : Int32)), (.int vv)])) _
        refine iremM X108 hx rfl (hb hby at_90) rfl (by decide) ?_
        show Steps p.tables e below (T108.setTop (mkF m 91 #[.val (.long q1), .second, .val (.long q2), .second, .val (.long q3), .second, .val (.int p4), .val (.int p5), .val (.int p6), .val (.int (0 : Int32)), .val (.ref b101), .val (.ref b104), .val (.int vv), .val (.int kk), .unset, .unset, .unset, .unset] [(.int (vv % (64 : Int32)))])) _
        refine XS.istore X108.here hx rfl (hb hby at_91) rfl (l' := #[.val (.long q1), .second, .val (.long q2), .second, .val (.long q3), .second, .val (.int p4), .val (.int p5), .val (.int p6), .val (.int (0 : Int32)), .val (.ref b101), .val (.ref b104), .val (.int vv), .val (.int kk), .val (.int (vv % (64 : Int32))), .unset, .unset, .unset]) rfl ?_
        show Steps p.tables e below (T108.setTop (mkF m 93 #[.val (.long q1), .second, .val (.long q2), .second, .val (.long q3), .second, .val (.int p4), .val (.int p5), .val (.int p6), .val (.int (0 : Int32)), .val (.ref b101), .val (.ref b104), .val (.int vv), .val (.int kk), .val (.int (vv % (64 : Int32))), .unset, .unset, .unset] [])) _
        exact k
      generalize hv_bb : (vv % (64 : Int32)) = bb
      show EndsQ _ _ _ _ _ _ _ (T108.setTop (mkF m 93 #[.val (.long q1), .second, .val (.long q2), .second, .val (.long q3), .second, .val (.int p4), .val (.int p5), .val (.int p6), .val (.int (0 : Int32)), .val (.ref b101), .val (.ref b104), .val (.int vv), .val (.int kk), .val (.int bb), .unset, .unset, .unset] []))
      refine EndsQ.go (b := T108.setTop (mkF m 97 #[.val (.long q1), .second, .val (.long q2), .second, .val (.long q3), .second, .val (.int p4), .val (.int p5), .val (.int p6), .val (.int (0 : Int32)), .val (.ref b101), .val (.ref b104), .val (.int vv), .val (.int kk), .val (.int bb), .unset, .unset, .unset] [(.int (0 : Int32)), (.int kk)])) (fun t k => ?_) ?_
      · show Steps p.tables e below (T108.setTop (mkF m 93 #[.val (.long q1), .second, .val (.long q2), .second, .val (.long q3), .second, .val (.int p4), .val (.int p5), .val (.int p6), .val (.int (0 : Int32)), .val (.ref b101), .val (.ref b104), .val (.int vv), .val (.int kk), .val (.int bb), .unset, .unset, .unset] [])) _
        refine XS.iload X108.here hx rfl (hb hby at_93) rfl ?_
        show Steps p.tables e below (T108.setTop (mkF m 95 #[.val (.long q1), .second, .val (.long q2), .second, .val (.long q3), .second, .val (.int p4), .val (.int p5), .val (.int p6), .val (.int (0 : Int32)), .val (.ref b101), .val (.ref b104), .val (.int vv), .val (.int kk), .val (.int bb), .unset, .unset, .unset] [(.int kk)])) _
        refine XS.iload X108.here hx rfl (hb hby at_95) rfl ?_
        show Steps p.tables e below (T108.setTop (mkF m 97 #[.val (.long q1), .second, .val (.long q2), .second, .val (.long q3), .second, .val (.int p4), .val (.int p5), .val (.int p6), .val (.int (0 : Int32)), .val (.ref b101), .val (.ref b104), .val (.int vv), .val (.int kk), .val (.int bb), .unset, .unset, .unset] [(.int (0 : Int32)), (.int kk)])) _
        exact k
      by_cases hc97_111 : kk < (0 : Int32)
      · refine EndsQ.go (b := T108.setTop (mkF m 106 #[.val (.long q1), .second, .val (.long q2), .second, .val (.long q3), .second, .val (.int p4), .val (.int p5), .val (.int p6), .val (.int (0 : Int32)), .val (.ref b101), .val (.ref b104), .val (.int vv), .val (.int kk), .val (.int bb), .unset, .unset, .unset] [])) (fun t k => ?_) ?_
        · show Steps p.tables e below (T108.setTop (mkF m 97 #[.val (.long q1), .second, .val (.long q2), .second, .val (.long q3), .second, .val (.int p4), .val (.int p5), .val (.int p6), .val (.int (0 : Int32)), .val (.ref b101), .val (.ref b104), .val (.int vv), .val (.int kk), .val (.int bb), .unset, .unset, .unset] [(.int (0 : Int32)), (.int kk)])) _
          refine XS.icmpYes X108.here hx rfl (pc0 := 97) (pc' := 106) rfl (hb hby at_97) rfl (tlt hc97_111).1 (by decide) (by decide) ?_
          show Steps p.tables e below (T108.setTop (mkF m 106 #[.val (.long q1), .second, .val (.long q2), .second, .val (.long q3), .second, .val (.int p4), .val (.int p5), .val (.int p6), .val (.int (0 : Int32)), .val (.ref b101), .val (.ref b104), .val (.int vv), .val (.int kk), .val (.int bb), .unset, .unset, .unset] [])) _
          exact k
        refine EndsQ.go (b := T108.setTop (mkF m 108 #[.val (.long q1), .second, .val (.long q2), .second, .val (.long q3), .second, .val (.int p4), .val (.int p5), .val (.int p6), .val (.int (0 : Int32)), .val (.ref b101), .val (.ref b104), .val (.int vv), .val (.int kk), .val (.int bb), .unset, .unset, .unset] [(.int kk)])) (fun t k => ?_) ?_
        · show Steps p.tables e below (T108.setTop (mkF m 106 #[.val (.long q1), .second, .val (.long q2), .second, .val (.long q3), .second, .val (.int p4), .val (.int p5), .val (.int p6), .val (.int (0 : Int32)), .val (.ref b101), .val (.ref b104), .val (.int vv), .val (.int kk), .val (.int bb), .unset, .unset, .unset] [])) _
          refine XS.iload X108.here hx rfl (hb hby at_106) rfl ?_
          show Steps p.tables e below (T108.setTop (mkF m 108 #[.val (.long q1), .second, .val (.long q2), .second, .val (.long q3), .second, .val (.int p4), .val (.int p5), .val (.int p6), .val (.int (0 : Int32)), .val (.ref b101), .val (.ref b104), .val (.int vv), .val (.int kk), .val (.int bb), .unset, .unset, .unset] [(.int kk)])) _
          exact k
        refine EndsQ.go (b := T108.setTop (mkF m 127 #[.val (.long q1), .second, .val (.long q2), .second, .val (.long q3), .second, .val (.int p4), .val (.int p5), .val (.int p6), .val (.int (0 : Int32)), .val (.ref b101), .val (.ref b104), .val (.int vv), .val (.int kk), .val (.int bb), .unset, .unset, .unset] [(.long (if kk = (0 : Int32) then q1 else (if kk = (1 : Int32) then q2 else q3)))])) (fun t k => ?_) ?_
        · by_cases hc108_112 : kk = (0 : Int32)
          · refine XS.ifNo X108.here hx rfl (hb hby at_108) rfl ((if0 _ _).trans (teq hc108_112).2) ?_
            show Steps p.tables e below (T108.setTop (mkF m 111 #[.val (.long q1), .second, .val (.long q2), .second, .val (.long q3), .second, .val (.int p4), .val (.int p5), .val (.int p6), .val (.int (0 : Int32)), .val (.ref b101), .val (.ref b104), .val (.int vv), .val (.int kk), .val (.int bb), .unset, .unset, .unset] [])) _
            refine XS.lloadN X108.here hx rfl (hb hby at_111) rfl ?_
            show Steps p.tables e below (T108.setTop (mkF m 112 #[.val (.long q1), .second, .val (.long q2), .second, .val (.long q3), .second, .val (.int p4), .val (.int p5), .val (.int p6), .val (.int (0 : Int32)), .val (.ref b101), .val (.ref b104), .val (.int vv), .val (.int kk), .val (.int bb), .unset, .unset, .unset] [(.long q1)])) _
            refine XS.goto X108.here hx rfl (pc0 := 112) (pc' := 127) rfl (hb hby at_112) (by decide) (by decide) ?_
            show Steps p.tables e below (T108.setTop (mkF m 127 #[.val (.long q1), .second, .val (.long q2), .second, .val (.long q3), .second, .val (.int p4), .val (.int p5), .val (.int p6), .val (.int (0 : Int32)), .val (.ref b101), .val (.ref b104), .val (.int vv), .val (.int kk), .val (.int bb), .unset, .unset, .unset] [(.long q1)])) _
            have j0 : (if kk = (0 : Int32) then q1 else (if kk = (1 : Int32) then q2 else q3)) = q1 := by rw [if_pos hc108_112]
            rw [j0] at k
            exact k
          · refine XS.ifYes X108.here hx rfl (pc0 := 108) (pc' := 115) rfl (hb hby at_108) rfl ((if0 _ _).trans (feq hc108_112).2) (by decide) (by decide) ?_
            show Steps p.tables e below (T108.setTop (mkF m 115 #[.val (.long q1), .second, .val (.long q2), .second, .val (.long q3), .second, .val (.int p4), .val (.int p5), .val (.int p6), .val (.int (0 : Int32)), .val (.ref b101), .val (.ref b104), .val (.int vv), .val (.int kk), .val (.int bb), .unset, .unset, .unset] [])) _
            refine XS.iload X108.here hx rfl (hb hby at_115) rfl ?_
            show Steps p.tables e below (T108.setTop (mkF m 117 #[.val (.long q1), .second, .val (.long q2), .second, .val (.long q3), .second, .val (.int p4), .val (.int p5), .val (.int p6), .val (.int (0 : Int32)), .val (.ref b101), .val (.ref b104), .val (.int vv), .val (.int kk), .val (.int bb), .unset, .unset, .unset] [(.int kk)])) _
            refine XS.iconst X108.here hx rfl (hb hby at_117) ?_
            show Steps p.tables e below (T108.setTop (mkF m 118 #[.val (.long q1), .second, .val (.long q2), .second, .val (.long q3), .second, .val (.int p4), .val (.int p5), .val (.int p6), .val (.int (0 : Int32)), .val (.ref b101), .val (.ref b104), .val (.int vv), .val (.int kk), .val (.int bb), .unset, .unset, .unset] [(.int (1 : Int32)), (.int kk)])) _
            by_cases hc118_113 : kk = (1 : Int32)
            · refine XS.icmpNo X108.here hx rfl (hb hby at_118) rfl (teq hc118_113).2 ?_
              show Steps p.tables e below (T108.setTop (mkF m 121 #[.val (.long q1), .second, .val (.long q2), .second, .val (.long q3), .second, .val (.int p4), .val (.int p5), .val (.int p6), .val (.int (0 : Int32)), .val (.ref b101), .val (.ref b104), .val (.int vv), .val (.int kk), .val (.int bb), .unset, .unset, .unset] [])) _
              refine XS.lloadN X108.here hx rfl (hb hby at_121) rfl ?_
              show Steps p.tables e below (T108.setTop (mkF m 122 #[.val (.long q1), .second, .val (.long q2), .second, .val (.long q3), .second, .val (.int p4), .val (.int p5), .val (.int p6), .val (.int (0 : Int32)), .val (.ref b101), .val (.ref b104), .val (.int vv), .val (.int kk), .val (.int bb), .unset, .unset, .unset] [(.long q2)])) _
              refine XS.goto X108.here hx rfl (pc0 := 122) (pc' := 127) rfl (hb hby at_122) (by decide) (by decide) ?_
              show Steps p.tables e below (T108.setTop (mkF m 127 #[.val (.long q1), .second, .val (.long q2), .second, .val (.long q3), .second, .val (.int p4), .val (.int p5), .val (.int p6), .val (.int (0 : Int32)), .val (.ref b101), .val (.ref b104), .val (.int vv), .val (.int kk), .val (.int bb), .unset, .unset, .unset] [(.long q2)])) _
              have j0 : (if kk = (0 : Int32) then q1 else (if kk = (1 : Int32) then q2 else q3)) = q2 := by rw [if_neg hc108_112, if_pos hc118_113]
              rw [j0] at k
              exact k
            · refine XS.icmpYes X108.here hx rfl (pc0 := 118) (pc' := 125) rfl (hb hby at_118) rfl (feq hc118_113).2 (by decide) (by decide) ?_
              show Steps p.tables e below (T108.setTop (mkF m 125 #[.val (.long q1), .second, .val (.long q2), .second, .val (.long q3), .second, .val (.int p4), .val (.int p5), .val (.int p6), .val (.int (0 : Int32)), .val (.ref b101), .val (.ref b104), .val (.int vv), .val (.int kk), .val (.int bb), .unset, .unset, .unset] [])) _
              refine XS.lload X108.here hx rfl (hb hby at_125) rfl ?_
              show Steps p.tables e below (T108.setTop (mkF m 127 #[.val (.long q1), .second, .val (.long q2), .second, .val (.long q3), .second, .val (.int p4), .val (.int p5), .val (.int p6), .val (.int (0 : Int32)), .val (.ref b101), .val (.ref b104), .val (.int vv), .val (.int kk), .val (.int bb), .unset, .unset, .unset] [(.long q3)])) _
              have j0 : (if kk = (0 : Int32) then q1 else (if kk = (1 : Int32) then q2 else q3)) = q3 := by rw [if_neg hc108_112, if_neg hc118_113]
              rw [j0] at k
              exact k
        generalize hv_ww : (if kk = (0 : Int32) then q1 else (if kk = (1 : Int32) then q2 else q3)) = ww
        show EndsQ _ _ _ _ _ _ _ (T108.setTop (mkF m 127 #[.val (.long q1), .second, .val (.long q2), .second, .val (.long q3), .second, .val (.int p4), .val (.int p5), .val (.int p6), .val (.int (0 : Int32)), .val (.ref b101), .val (.ref b104), .val (.int vv), .val (.int kk), .val (.int bb), .unset, .unset, .unset] [(.long ww)]))
        refine EndsQ.go (b := T108.setTop (mkF m 138 #[.val (.long q1), .second, .val (.long q2), .second, .val (.long q3), .second, .val (.int p4), .val (.int p5), .val (.int p6), .val (.int (0 : Int32)), .val (.ref b101), .val (.ref b104), .val (.int vv), .val (.int kk), .val (.int bb), .unset, .val (.long ww), .second] [(.int (lcmpW (ww &&& ((1 : Int64) <<< (bb &&& 0x3f).toInt64)) (0 : Int64)))])) (fun t k => ?_) ?_
        · show Steps p.tables e below (T108.setTop (mkF m 127 #[.val (.long q1), .second, .val (.long q2), .second, .val (.long q3), .second, .val (.int p4), .val (.int p5), .val (.int p6), .val (.int (0 : Int32)), .val (.ref b101), .val (.ref b104), .val (.int vv), .val (.int kk), .val (.int bb), .unset, .unset, .unset] [(.long ww)])) _
          refine XS.lstore X108.here hx rfl (hb hby at_127) rfl (l' := #[.val (.long q1), .second, .val (.long q2), .second, .val (.long q3), .second, .val (.int p4), .val (.int p5), .val (.int p6), .val (.int (0 : Int32)), .val (.ref b101), .val (.ref b104), .val (.int vv), .val (.int kk), .val (.int bb), .unset, .val (.long ww), .second]) rfl ?_
          show Steps p.tables e below (T108.setTop (mkF m 129 #[.val (.long q1), .second, .val (.long q2), .second, .val (.long q3), .second, .val (.int p4), .val (.int p5), .val (.int p6), .val (.int (0 : Int32)), .val (.ref b101), .val (.ref b104), .val (.int vv), .val (.int kk), .val (.int bb), .unset, .val (.long ww), .second] [])) _
          refine XS.lload X108.here hx rfl (hb hby at_129) rfl ?_
          show Steps p.tables e below (T108.setTop (mkF m 131 #[.val (.long q1), .second, .val (.long q2), .second, .val (.long q3), .second, .val (.int p4), .val (.int p5), .val (.int p6), .val (.int (0 : Int32)), .val (.ref b101), .val (.ref b104), .val (.int vv), .val (.int kk), .val (.int bb), .unset, .val (.long ww), .second] [(.long ww)])) _
          refine XS.lconst X108.here hx rfl (hb hby at_131) ?_
          show Steps p.tables e below (T108.setTop (mkF m 132 #[.val (.long q1), .second, .val (.long q2), .second, .val (.long q3), .second, .val (.int p4), .val (.int p5), .val (.int p6), .val (.int (0 : Int32)), .val (.ref b101), .val (.ref b104), .val (.int vv), .val (.int kk), .val (.int bb), .unset, .val (.long ww), .second] [(.long (1 : Int64)), (.long ww)])) _
          refine XS.iload X108.here hx rfl (hb hby at_132) rfl ?_
          show Steps p.tables e below (T108.setTop (mkF m 134 #[.val (.long q1), .second, .val (.long q2), .second, .val (.long q3), .second, .val (.int p4), .val (.int p5), .val (.int p6), .val (.int (0 : Int32)), .val (.ref b101), .val (.ref b104), .val (.int vv), .val (.int kk), .val (.int bb), .unset, .val (.long ww), .second] [(.int bb), (.long (1 : Int64)), (.long ww)])) _
          refine XS.lshl X108.here hx rfl (hb hby at_134) rfl ?_
          show Steps p.tables e below (T108.setTop (mkF m 135 #[.val (.long q1), .second, .val (.long q2), .second, .val (.long q3), .second, .val (.int p4), .val (.int p5), .val (.int p6), .val (.int (0 : Int32)), .val (.ref b101), .val (.ref b104), .val (.int vv), .val (.int kk), .val (.int bb), .unset, .val (.long ww), .second] [(.long ((1 : Int64) <<< (bb &&& 0x3f).toInt64)), (.long ww)])) _
          refine XS.land X108.here hx rfl (hb hby at_135) rfl ?_
          show Steps p.tables e below (T108.setTop (mkF m 136 #[.val (.long q1), .second, .val (.long q2), .second, .val (.long q3), .second, .val (.int p4), .val (.int p5), .val (.int p6), .val (.int (0 : Int32)), .val (.ref b101), .val (.ref b104), .val (.int vv), .val (.int kk), .val (.int bb), .unset, .val (.long ww), .second] [(.long (ww &&& ((1 : Int64) <<< (bb &&& 0x3f).toInt64)))])) _
          refine XS.lconst X108.here hx rfl (hb hby at_136) ?_
          show Steps p.tables e below (T108.setTop (mkF m 137 #[.val (.long q1), .second, .val (.long q2), .second, .val (.long q3), .second, .val (.int p4), .val (.int p5), .val (.int p6), .val (.int (0 : Int32)), .val (.ref b101), .val (.ref b104), .val (.int vv), .val (.int kk), .val (.int bb), .unset, .val (.long ww), .second] [(.long (0 : Int64)), (.long (ww &&& ((1 : Int64) <<< (bb &&& 0x3f).toInt64)))])) _
          refine XS.lcmp X108.here hx rfl (hb hby at_137) rfl ?_
          show Steps p.tables e below (T108.setTop (mkF m 138 #[.val (.long q1), .second, .val (.long q2), .second, .val (.long q3), .second, .val (.int p4), .val (.int p5), .val (.int p6), .val (.int (0 : Int32)), .val (.ref b101), .val (.ref b104), .val (.int vv), .val (.int kk), .val (.int bb), .unset, .val (.long ww), .second] [(.int (lcmpW (ww &&& ((1 : Int64) <<< (bb &&& 0x3f).toInt64)) (0 : Int64)))])) _
          exact k
        refine EndsQ.go (b := T108.setTop (mkF m 146 #[.val (.long q1), .second, .val (.long q2), .second, .val (.long q3), .second, .val (.int p4), .val (.int p5), .val (.int p6), .val (.int (0 : Int32)), .val (.ref b101), .val (.ref b104), .val (.int vv), .val (.int kk), .val (.int bb), .unset, .val (.long ww), .second] [(.int (if (ww &&& ((1 : Int64) <<< (bb &&& 0x3f).toInt64)) = (0 : Int64) then (0 : Int32) else (1 : Int32)))])) (fun t k => ?_) ?_
        · by_cases hc138_114 : (ww &&& ((1 : Int64) <<< (bb &&& 0x3f).toInt64)) = (0 : Int64)
          · refine XS.ifYes X108.here hx rfl (pc0 := 138) (pc' := 145) rfl (hb hby at_138) rfl ((if0 _ _).trans (teq ((lw_eq (ww &&& ((1 : Int64) <<< (bb &&& 0x3f).toInt64)) (0 : Int64)).mpr hc138_114)).1) (by decide) (by decide) ?_
            show Steps p.tables e below (T108.setTop (mkF m 145 #[.val (.long q1), .second, .val (.long q2), .second, .val (.long q3), .second, .val (.int p4), .val (.int p5), .val (.int p6), .val (.int (0 : Int32)), .val (.ref b101), .val (.ref b104), .val (.int vv), .val (.int kk), .val (.int bb), .unset, .val (.long ww), .second] [])) _
            refine XS.iconst X108.here hx rfl (hb hby at_145) ?_
            show Steps p.tables e below (T108.setTop (mkF m 146 #[.val (.long q1), .second, .val (.long q2), .second, .val (.long q3), .second, .val (.int p4), .val (.int p5), .val (.int p6), .val (.int (0 : Int32)), .val (.ref b101), .val (.ref b104), .val (.int vv), .val (.int kk), .val (.int bb), .unset, .val (.long ww), .second] [(.int (0 : Int32))])) _
            have j0 : (if (ww &&& ((1 : Int64) <<< (bb &&& 0x3f).toInt64)) = (0 : Int64) then (0 : Int32) else (1 : Int32)) = (0 : Int32) := by rw [if_pos hc138_114]
            rw [j0] at k
            exact k
          · refine XS.ifNo X108.here hx rfl (hb hby at_138) rfl ((if0 _ _).trans (feq (fun q => hc138_114 ((lw_eq (ww &&& ((1 : Int64) <<< (bb &&& 0x3f).toInt64)) (0 : Int64)).mp q))).1) ?_
            show Steps p.tables e below (T108.setTop (mkF m 141 #[.val (.long q1), .second, .val (.long q2), .second, .val (.long q3), .second, .val (.int p4), .val (.int p5), .val (.int p6), .val (.int (0 : Int32)), .val (.ref b101), .val (.ref b104), .val (.int vv), .val (.int kk), .val (.int bb), .unset, .val (.long ww), .second] [])) _
            refine XS.iconst X108.here hx rfl (hb hby at_141) ?_
            show Steps p.tables e below (T108.setTop (mkF m 142 #[.val (.long q1), .second, .val (.long q2), .second, .val (.long q3), .second, .val (.int p4), .val (.int p5), .val (.int p6), .val (.int (0 : Int32)), .val (.ref b101), .val (.ref b104), .val (.int vv), .val (.int kk), .val (.int bb), .unset, .val (.long ww), .second] [(.int (1 : Int32))])) _
            refine XS.goto X108.here hx rfl (pc0 := 142) (pc' := 146) rfl (hb hby at_142) (by decide) (by decide) ?_
            show Steps p.tables e below (T108.setTop (mkF m 146 #[.val (.long q1), .second, .val (.long q2), .second, .val (.long q3), .second, .val (.int p4), .val (.int p5), .val (.int p6), .val (.int (0 : Int32)), .val (.ref b101), .val (.ref b104), .val (.int vv), .val (.int kk), .val (.int bb), .unset, .val (.long ww), .second] [(.int (1 : Int32))])) _
            have j0 : (if (ww &&& ((1 : Int64) <<< (bb &&& 0x3f).toInt64)) = (0 : Int64) then (0 : Int32) else (1 : Int32)) = (1 : Int32) := by rw [if_neg hc138_114]
            rw [j0] at k
            exact k
        generalize hv_ee : (if (ww &&& ((1 : Int64) <<< (bb &&& 0x3f).toInt64)) = (0 : Int64) then (0 : Int32) else (1 : Int32)) = ee
        show EndsQ _ _ _ _ _ _ _ (T108.setTop (mkF m 146 #[.val (.long q1), .second, .val (.long q2), .second, .val (.long q3), .second, .val (.int p4), .val (.int p5), .val (.int p6), .val (.int (0 : Int32)), .val (.ref b101), .val (.ref b104), .val (.int vv), .val (.int kk), .val (.int bb), .unset, .val (.long ww), .second] [(.int ee)]))
        refine EndsQ.go (b := T108.setTop (mkF m 152 #[.val (.long q1), .second, .val (.long q2), .second, .val (.long q3), .second, .val (.int p4), .val (.int p5), .val (.int p6), .val (.int (0 : Int32)), .val (.ref b101), .val (.ref b104), .val (.int vv), .val (.int kk), .val (.int bb), .val (.int ee), .val (.long ww), .second] [(.int vv), (.ref b104)])) (fun t k => ?_) ?_
        · show Steps p.tables e below (T108.setTop (mkF m 146 #[.val (.long q1), .second, .val (.long q2), .second, .val (.long q3), .second, .val (.int p4), .val (.int p5), .val (.int p6), .val (.int (0 : Int32)), .val (.ref b101), .val (.ref b104), .val (.int vv), .val (.int kk), .val (.int bb), .unset, .val (.long ww), .second] [(.int ee)])) _
          refine XS.istore X108.here hx rfl (hb hby at_146) rfl (l' := #[.val (.long q1), .second, .val (.long q2), .second, .val (.long q3), .second, .val (.int p4), .val (.int p5), .val (.int p6), .val (.int (0 : Int32)), .val (.ref b101), .val (.ref b104), .val (.int vv), .val (.int kk), .val (.int bb), .val (.int ee), .val (.long ww), .second]) rfl ?_
          show Steps p.tables e below (T108.setTop (mkF m 148 #[.val (.long q1), .second, .val (.long q2), .second, .val (.long q3), .second, .val (.int p4), .val (.int p5), .val (.int p6), .val (.int (0 : Int32)), .val (.ref b101), .val (.ref b104), .val (.int vv), .val (.int kk), .val (.int bb), .val (.int ee), .val (.long ww), .second] [])) _
          refine XS.aload X108.here hx rfl (hb hby at_148) rfl rfl ?_
          show Steps p.tables e below (T108.setTop (mkF m 150 #[.val (.long q1), .second, .val (.long q2), .second, .val (.long q3), .second, .val (.int p4), .val (.int p5), .val (.int p6), .val (.int (0 : Int32)), .val (.ref b101), .val (.ref b104), .val (.int vv), .val (.int kk), .val (.int bb), .val (.int ee), .val (.long ww), .second] [(.ref b104)])) _
          refine XS.iload X108.here hx rfl (hb hby at_150) rfl ?_
          show Steps p.tables e below (T108.setTop (mkF m 152 #[.val (.long q1), .second, .val (.long q2), .second, .val (.long q3), .second, .val (.int p4), .val (.int p5), .val (.int p6), .val (.int (0 : Int32)), .val (.ref b101), .val (.ref b104), .val (.int vv), .val (.int kk), .val (.int bb), .val (.int ee), .val (.long ww), .second] [(.int vv), (.ref b104)])) _
          exact k
        have hsel : own_w vv < (0 : Int32) → (¬ own_w vv < 0 ∧ own_w vv < (0 : Int32)) ∧ ([] : List Value).getD (own_w vv).toNatClampNeg (.long (0 : Int64)) = .long ww := by
          intro hlt
          rw [hkw.1] at hlt ⊢
          rw [← hv_ww]
          rcases own_c3 kk hkw.2 with q | q | q | q
          · rw [q] at hlt ⊢; exact absurd hlt (by decide)
          · rw [q] at hlt ⊢; exact absurd hlt (by decide)
          · rw [q] at hlt ⊢; exact absurd hlt (by decide)
          · exact absurd hlt (own_gt2 kk (0 : Int32) q (by decide))
        have hz0 : ¬ kk < (0 : Int32) → ww = 0 := by
          intro hlt
          rw [← hv_ww]
          rcases own_c3 kk hkw.2 with q | q | q | q
          · rw [q] at hlt hc97_111 ⊢; exact absurd hc97_111 (by decide)
          · rw [q] at hlt hc97_111 ⊢; exact absurd hc97_111 (by decide)
          · rw [q] at hlt hc97_111 ⊢; exact absurd hc97_111 (by decide)
          · exact absurd hc97_111 (own_gt2 kk (0 : Int32) q (by decide))
        obtain ⟨cq115, kq115, qa115, qb115, qc115⟩ := isOf hZ rfl Ex108
        obtain ⟨_, _, ⟨T115, L115, kk115, nn115⟩, -, X115, ⟨Lc115, hQ115, l115, y115, z115⟩, st115⟩ := X108.virtualBack hx (y := (⟨"com/example/sextant/sextant/ValueSet", "contains", "(I)Z"⟩ : MethodName)) (z := (⟨"com/example/sextant/sextant/ValueSet", "contains", "(I)Z"⟩ : MethodName)) hown (mvT hZ (hw _ (List.mem_of_getElem? (i := 13) rfl))) (mvT hZ (hw _ (List.mem_of_getElem? (i := 14) rfl))) (notFace_of_selects (args := #[]) (mvT hZ (hw _ (List.mem_of_getElem? (i := 16) rfl)))) (mvT hZ (hw _ (List.mem_of_getElem? (i := 16) rfl))) (mvT hZ (hw _ (List.mem_of_getElem? (i := 15) rfl))) (by decide) (backOf (W := 0) (rm3 l Z a0 hw [] b104 vv c108 kc108 (0 : Int32) [] ww T108.heap n0 f109 Fx108 Vx108 hsel) hZ (hw _ (List.mem_of_getElem? (i := 17) rfl)) (hw _ (List.mem_of_getElem? (i := 3) rfl)) (by decide) (by decide)) qa115 qc115 (g := (mkF m 152 #[.val (.long q1), .second, .val (.long q2), .second, .val (.long q3), .second, .val (.int p4), .val (.int p5), .val (.int p6), .val (.int (0 : Int32)), .val (.ref b101), .val (.ref b104), .val (.int vv), .val (.int kk), .val (.int bb), .val (.int ee), .val (.long ww), .second] [(.int vv), (.ref b104)])) rfl (by rw [hml]; rfl) (Steps.refl _) (argsL := [(.int vv)]) (rest := []) (lenOf pd_3 rfl) rfl (by show 2 * 0 + _ ≤ _; exact Nat.le_of_eq rfl) (hb hby at_152) (fun _ _ => ⟨rfl, rfl, (by decide : 3 + 0 ≤ _), (by decide : 3 + 0 ≤ _)⟩)
        dsimp only [Pt.U, Pt.locs, Pt.cells, Pt.slots] at X115 l115 y115 z115 st115 hQ115
        subst l115 y115 z115
        obtain ⟨rfl, Nq115, eq115⟩ := hQ115
        have N115 := Fr.app N108 Nq115
        refine EndsQ.go (fun t k => st115.trans k) ?_
        show EndsQ _ _ _ _ _ _ _ (T115.setTop (mkF m 155 #[.val (.long q1), .second, .val (.long q2), .second, .val (.long q3), .second, .val (.int p4), .val (.int p5), .val (.int p6), .val (.int (0 : Int32)), .val (.ref b101), .val (.ref b104), .val (.int vv), .val (.int kk), .val (.int bb), .val (.int ee), .val (.long ww), .second] [(.int (own_has vv (0 : Int32) ww))]))
        refine EndsQ.go (b := T115.setTop (mkF m 165 #[.val (.long q1), .second, .val (.long q2), .second, .val (.long q3), .second, .val (.int p4), .val (.int p5), .val (.int p6), .val (.int (0 : Int32)), .val (.ref b101), .val (.ref b104), .val (.int vv), .val (.int kk), .val (.int bb), .val (.int ee), .val (.long ww), .second] [(.int (1 : Int32))])) (fun t k => ?_) ?_
        · show Steps p.tables e below (T115.setTop (mkF m 155 #[.val (.long q1), .second, .val (.long q2), .second, .val (.long q3), .second, .val (.int p4), .val (.int p5), .val (.int p6), .val (.int (0 : Int32)), .val (.ref b101), .val (.ref b104), .val (.int vv), .val (.int kk), .val (.int bb), .val (.int ee), .val (.long ww), .second] [(.int (own_has vv (0 : Int32) ww))])) _
          refine XS.iload X115.here hx rfl (hb hby at_155) rfl ?_
          show Steps p.tables e below (T115.setTop (mkF m 157 #[.val (.long q1), .second, .val (.long q2), .second, .val (.long q3), .second, .val (.int p4), .val (.int p5), .val (.int p6), .val (.int (0 : Int32)), .val (.ref b101), .val (.ref b104), .val (.int vv), .val (.int kk), .val (.int bb), .val (.int ee), .val (.long ww), .second] [(.int ee), (.int (own_has vv (0 : Int32) ww))])) _
          refine XS.icmpNo X115.here hx rfl (hb hby at_157) rfl (teq ((own_hasB vv (0 : Int32) kk bb ww hb_v hkw.1 hv_bb hz0).trans hv_ee)).2 ?_
          show Steps p.tables e below (T115.setTop (mkF m 160 #[.val (.long q1), .second, .val (.long q2), .second, .val (.long q3), .second, .val (.int p4), .val (.int p5), .val (.int p6), .val (.int (0 : Int32)), .val (.ref b101), .val (.ref b104), .val (.int vv), .val (.int kk), .val (.int bb), .val (.int ee), .val (.long ww), .second] [])) _
          refine XS.iconst X115.here hx rfl (hb hby at_160) ?_
          show Steps p.tables e below (T115.setTop (mkF m 161 #[.val (.long q1), .second, .val (.long q2), .second, .val (.long q3), .second, .val (.int p4), .val (.int p5), .val (.int p6), .val (.int (0 : Int32)), .val (.ref b101), .val (.ref b104), .val (.int vv), .val (.int kk), .val (.int bb), .val (.int ee), .val (.long ww), .second] [(.int (1 : Int32))])) _
          refine XS.goto X115.here hx rfl (pc0 := 161) (pc' := 165) rfl (hb hby at_161) (by decide) (by decide) ?_
          show Steps p.tables e below (T115.setTop (mkF m 165 #[.val (.long q1), .second, .val (.long q2), .second, .val (.long q3), .second, .val (.int p4), .val (.int p5), .val (.int p6), .val (.int (0 : Int32)), .val (.ref b101), .val (.ref b104), .val (.int vv), .val (.int kk), .val (.int bb), .val (.int ee), .val (.long ww), .second] [(.int (1 : Int32))])) _
          exact k
        refine EndsQ.retN X115 hx Bd.notSynchronized (t := .boolean) Bd.returns (by simp) (hb hby at_165) (by decide) (by decide) ?_
        show Q0 Z q1 q2 q3 p4 p5 p6 h0 n0 (some (.int (nar .boolean (1 : Int32)))) T115.heap _
        rw [eq115]
        exact ⟨rfl, N115⟩
      · refine EndsQ.go (b := T108.setTop (mkF m 100 #[.val (.long q1), .second, .val (.long q2), .second, .val (.long q3), .second, .val (.int p4), .val (.int p5), .val (.int p6), .val (.int (0 : Int32)), .val (.ref b101), .val (.ref b104), .val (.int vv), .val (.int kk), .val (.int bb), .unset, .unset, .unset] [])) (fun t k => ?_) ?_
        · show Steps p.tables e below (T108.setTop (mkF m 97 #[.val (.long q1), .second, .val (.long q2), .second, .val (.long q3), .second, .val (.int p4), .val (.int p5), .val (.int p6), .val (.int (0 : Int32)), .val (.ref b101), .val (.ref b104), .val (.int vv), .val (.int kk), .val (.int bb), .unset, .unset, .unset] [(.int (0 : Int32)), (.int kk)])) _
          refine XS.icmpNo X108.here hx rfl (hb hby at_97) rfl (flt hc97_111).1 ?_
          show Steps p.tables e below (T108.setTop (mkF m 100 #[.val (.long q1), .second, .val (.long q2), .second, .val (.long q3), .second, .val (.int p4), .val (.int p5), .val (.int p6), .val (.int (0 : Int32)), .val (.ref b101), .val (.ref b104), .val (.int vv), .val (.int kk), .val (.int bb), .unset, .unset, .unset] [])) _
          exact k
        refine EndsQ.go (b := T108.setTop (mkF m 152 #[.val (.long q1), .second, .val (.long q2), .second, .val (.long q3), .second, .val (.int p4), .val (.int p5), .val (.int p6), .val (.int (0 : Int32)), .val (.ref b101), .val (.ref b104), .val (.int vv), .val (.int kk), .val (.int bb), .val (.int (0 : Int32)), .unset, .unset] [(.int vv), (.ref b104)])) (fun t k => ?_) ?_
        · show Steps p.tables e below (T108.setTop (mkF m 100 #[.val (.long q1), .second, .val (.long q2), .second, .val (.long q3), .second, .val (.int p4), .val (.int p5), .val (.int p6), .val (.int (0 : Int32)), .val (.ref b101), .val (.ref b104), .val (.int vv), .val (.int kk), .val (.int bb), .unset, .unset, .unset] [])) _
          refine XS.iconst X108.here hx rfl (hb hby at_100) ?_
          show Steps p.tables e below (T108.setTop (mkF m 101 #[.val (.long q1), .second, .val (.long q2), .second, .val (.long q3), .second, .val (.int p4), .val (.int p5), .val (.int p6), .val (.int (0 : Int32)), .val (.ref b101), .val (.ref b104), .val (.int vv), .val (.int kk), .val (.int bb), .unset, .unset, .unset] [(.int (0 : Int32))])) _
          refine XS.istore X108.here hx rfl (hb hby at_101) rfl (l' := #[.val (.long q1), .second, .val (.long q2), .second, .val (.long q3), .second, .val (.int p4), .val (.int p5), .val (.int p6), .val (.int (0 : Int32)), .val (.ref b101), .val (.ref b104), .val (.int vv), .val (.int kk), .val (.int bb), .val (.int (0 : Int32)), .unset, .unset]) rfl ?_
          show Steps p.tables e below (T108.setTop (mkF m 103 #[.val (.long q1), .second, .val (.long q2), .second, .val (.long q3), .second, .val (.int p4), .val (.int p5), .val (.int p6), .val (.int (0 : Int32)), .val (.ref b101), .val (.ref b104), .val (.int vv), .val (.int kk), .val (.int bb), .val (.int (0 : Int32)), .unset, .unset] [])) _
          refine XS.goto X108.here hx rfl (pc0 := 103) (pc' := 148) rfl (hb hby at_103) (by decide) (by decide) ?_
          show Steps p.tables e below (T108.setTop (mkF m 148 #[.val (.long q1), .second, .val (.long q2), .second, .val (.long q3), .second, .val (.int p4), .val (.int p5), .val (.int p6), .val (.int (0 : Int32)), .val (.ref b101), .val (.ref b104), .val (.int vv), .val (.int kk), .val (.int bb), .val (.int (0 : Int32)), .unset, .unset] [])) _
          refine XS.aload X108.here hx rfl (hb hby at_148) rfl rfl ?_
          show Steps p.tables e below (T108.setTop (mkF m 150 #[.val (.long q1), .second, .val (.long q2), .second, .val (.long q3), .second, .val (.int p4), .val (.int p5), .val (.int p6), .val (.int (0 : Int32)), .val (.ref b101), .val (.ref b104), .val (.int vv), .val (.int kk), .val (.int bb), .val (.int (0 : Int32)), .unset, .unset] [(.ref b104)])) _
          refine XS.iload X108.here hx rfl (hb hby at_150) rfl ?_
          show Steps p.tables e below (T108.setTop (mkF m 152 #[.val (.long q1), .second, .val (.long q2), .second, .val (.long q3), .second, .val (.int p4), .val (.int p5), .val (.int p6), .val (.int (0 : Int32)), .val (.ref b101), .val (.ref b104), .val (.int vv), .val (.int kk), .val (.int bb), .val (.int (0 : Int32)), .unset, .unset] [(.int vv), (.ref b104)])) _
          exact k
        obtain ⟨cq116, kq116, qa116, qb116, qc116⟩ := isOf hZ rfl Ex108
        obtain ⟨_, _, ⟨T116, L116, kk116, nn116⟩, -, X116, ⟨Lc116, hQ116, l116, y116, z116⟩, st116⟩ := X108.virtualBack hx (y := (⟨"com/example/sextant/sextant/ValueSet", "contains", "(I)Z"⟩ : MethodName)) (z := (⟨"com/example/sextant/sextant/ValueSet", "contains", "(I)Z"⟩ : MethodName)) hown (mvT hZ (hw _ (List.mem_of_getElem? (i := 13) rfl))) (mvT hZ (hw _ (List.mem_of_getElem? (i := 14) rfl))) (notFace_of_selects (args := #[]) (mvT hZ (hw _ (List.mem_of_getElem? (i := 16) rfl)))) (mvT hZ (hw _ (List.mem_of_getElem? (i := 16) rfl))) (mvT hZ (hw _ (List.mem_of_getElem? (i := 15) rfl))) (by decide) (backOf (W := 0) (rm3 l Z a0 hw [] b104 vv c108 kc108 (0 : Int32) [] (0 : Int64) T108.heap n0 f109 Fx108 Vx108 (fun hlt => absurd hlt (by rw [hkw.1]; exact own_mono kk (0 : Int32) (0 : Int32) hc97_111 (by decide)))) hZ (hw _ (List.mem_of_getElem? (i := 17) rfl)) (hw _ (List.mem_of_getElem? (i := 3) rfl)) (by decide) (by decide)) qa116 qc116 (g := (mkF m 152 #[.val (.long q1), .second, .val (.long q2), .second, .val (.long q3), .second, .val (.int p4), .val (.int p5), .val (.int p6), .val (.int (0 : Int32)), .val (.ref b101), .val (.ref b104), .val (.int vv), .val (.int kk), .val (.int bb), .val (.int (0 : Int32)), .unset, .unset] [(.int vv), (.ref b104)])) rfl (by rw [hml]; rfl) (Steps.refl _) (argsL := [(.int vv)]) (rest := []) (lenOf pd_3 rfl) rfl (by show 2 * 0 + _ ≤ _; exact Nat.le_of_eq rfl) (hb hby at_152) (fun _ _ => ⟨rfl, rfl, (by decide : 3 + 0 ≤ _), (by decide : 3 + 0 ≤ _)⟩)
        dsimp only [Pt.U, Pt.locs, Pt.cells, Pt.slots] at X116 l116 y116 z116 st116 hQ116
        subst l116 y116 z116
        obtain ⟨rfl, Nq116, eq116⟩ := hQ116
        have N116 := Fr.app N108 Nq116
        refine EndsQ.go (fun t k => st116.trans k) ?_
        show EndsQ _ _ _ _ _ _ _ (T116.setTop (mkF m 155 #[.val (.long q1), .second, .val (.long q2), .second, .val (.long q3), .second, .val (.int p4), .val (.int p5), .val (.int p6), .val (.int (0 : Int32)), .val (.ref b101), .val (.ref b104), .val (.int vv), .val (.int kk), .val (.int bb), .val (.int (0 : Int32)), .unset, .unset] [(.int (own_has vv (0 : Int32) (0 : Int64)))]))
        refine EndsQ.go (b := T116.setTop (mkF m 165 #[.val (.long q1), .second, .val (.long q2), .second, .val (.long q3), .second, .val (.int p4), .val (.int p5), .val (.int p6), .val (.int (0 : Int32)), .val (.ref b101), .val (.ref b104), .val (.int vv), .val (.int kk), .val (.int bb), .val (.int (0 : Int32)), .unset, .unset] [(.int (1 : Int32))])) (fun t k => ?_) ?_
        · show Steps p.tables e below (T116.setTop (mkF m 155 #[.val (.long q1), .second, .val (.long q2), .second, .val (.long q3), .second, .val (.int p4), .val (.int p5), .val (.int p6), .val (.int (0 : Int32)), .val (.ref b101), .val (.ref b104), .val (.int vv), .val (.int kk), .val (.int bb), .val (.int (0 : Int32)), .unset, .unset] [(.int (own_has vv (0 : Int32) (0 : Int64)))])) _
          refine XS.iload X116.here hx rfl (hb hby at_155) rfl ?_
          show Steps p.tables e below (T116.setTop (mkF m 157 #[.val (.long q1), .second, .val (.long q2), .second, .val (.long q3), .second, .val (.int p4), .val (.int p5), .val (.int p6), .val (.int (0 : Int32)), .val (.ref b101), .val (.ref b104), .val (.int vv), .val (.int kk), .val (.int bb), .val (.int (0 : Int32)), .unset, .unset] [(.int (0 : Int32)), (.int (own_has vv (0 : Int32) (0 : Int64)))])) _
          refine XS.icmpNo X116.here hx rfl (hb hby at_157) rfl (teq (own_hasA vv (0 : Int32) kk (0 : Int64) hkw.1 (own_mono kk (0 : Int32) (0 : Int32) hc97_111 (by decide)))).2 ?_
          show Steps p.tables e below (T116.setTop (mkF m 160 #[.val (.long q1), .second, .val (.long q2), .second, .val (.long q3), .second, .val (.int p4), .val (.int p5), .val (.int p6), .val (.int (0 : Int32)), .val (.ref b101), .val (.ref b104), .val (.int vv), .val (.int kk), .val (.int bb), .val (.int (0 : Int32)), .unset, .unset] [])) _
          refine XS.iconst X116.here hx rfl (hb hby at_160) ?_
          show Steps p.tables e below (T116.setTop (mkF m 161 #[.val (.long q1), .second, .val (.long q2), .second, .val (.long q3), .second, .val (.int p4), .val (.int p5), .val (.int p6), .val (.int (0 : Int32)), .val (.ref b101), .val (.ref b104), .val (.int vv), .val (.int kk), .val (.int bb), .val (.int (0 : Int32)), .unset, .unset] [(.int (1 : Int32))])) _
          refine XS.goto X116.here hx rfl (pc0 := 161) (pc' := 165) rfl (hb hby at_161) (by decide) (by decide) ?_
          show Steps p.tables e below (T116.setTop (mkF m 165 #[.val (.long q1), .second, .val (.long q2), .second, .val (.long q3), .second, .val (.int p4), .val (.int p5), .val (.int p6), .val (.int (0 : Int32)), .val (.ref b101), .val (.ref b104), .val (.int vv), .val (.int kk), .val (.int bb), .val (.int (0 : Int32)), .unset, .unset] [(.int (1 : Int32))])) _
          exact k
        refine EndsQ.retN X116 hx Bd.notSynchronized (t := .boolean) Bd.returns (by simp) (hb hby at_165) (by decide) (by decide) ?_
        show Q0 Z q1 q2 q3 p4 p5 p6 h0 n0 (some (.int (nar .boolean (1 : Int32)))) T116.heap _
        rw [eq116]
        exact ⟨rfl, N116⟩
  · subst hk1
    show EndsQ _ _ _ _ _ _ _ (s₁.setTop (mkF m 6 #[.val (.long q1), .second, .val (.long q2), .second, .val (.long q3), .second, .val (.int p4), .val (.int p5), .val (.int p6), .val (.int (1 : Int32)), .unset, .unset, .unset, .unset, .unset, .unset, .unset, .unset] []))
    refine EndsQ.go (b := s₁.setTop (mkF m 8 #[.val (.long q1), .second, .val (.long q2), .second, .val (.long q3), .second, .val (.int p4), .val (.int p5), .val (.int p6), .val (.int (1 : Int32)), .unset, .unset, .unset, .unset, .unset, .unset, .unset, .unset] [(.int (1 : Int32))])) (fun t k => ?_) ?_
    · show Steps p.tables e below (s₁.setTop (mkF m 6 #[.val (.long q1), .second, .val (.long q2), .second, .val (.long q3), .second, .val (.int p4), .val (.int p5), .val (.int p6), .val (.int (1 : Int32)), .unset, .unset, .unset, .unset, .unset, .unset, .unset, .unset] [])) _
      refine XS.iload X0.here hx rfl (hb hby at_6) rfl ?_
      show Steps p.tables e below (s₁.setTop (mkF m 8 #[.val (.long q1), .second, .val (.long q2), .second, .val (.long q3), .second, .val (.int p4), .val (.int p5), .val (.int p6), .val (.int (1 : Int32)), .unset, .unset, .unset, .unset, .unset, .unset, .unset, .unset] [(.int (1 : Int32))])) _
      exact k
    obtain ⟨T117, h117, k117, X117, e117, E117, A117, st117⟩ := newP X0 hx hZ (hw _ (List.mem_of_getElem? (i := 0) rfl)) e0 (g := (mkF m 8 #[.val (.long q1), .second, .val (.long q2), .second, .val (.long q3), .second, .val (.int p4), .val (.int p5), .val (.int p6), .val (.int (1 : Int32)), .unset, .unset, .unset, .unset, .unset, .unset, .unset, .unset] [(.int (1 : Int32))])) rfl (hb hby at_8) rfl (by decide) (cap := 1) (by decide) (by decide) (by decide) (by decide)
    obtain ⟨b117, g117⟩ : ∃ z, z = h0.size := ⟨_, rfl⟩
    rw [← g117] at A117 st117
    have gn117 : n0 ≤ b117 := Nat.le_trans Z0 (Nat.le_of_eq g117.symm)
    have f118 : n0 ≤ h117.size := Nat.le_trans Z0 E117.1
    have f119 : Arv Z h117 b117 k117 .long (1 : Int32) [(.long (0 : Int64))] (.long (0 : Int64)) := (Arv.new A117 (by decide)).pad (pad_rep [] (.long (0 : Int64)) 1)
    refine EndsQ.go st117 ?_
    show EndsQ _ _ _ _ _ _ _ (T117.setTop (mkF m 10 #[.val (.long q1), .second, .val (.long q2), .second, .val (.long q3), .second, .val (.int p4), .val (.int p5), .val (.int p6), .val (.int (1 : Int32)), .unset, .unset, .unset, .unset, .unset, .unset, .unset, .unset] [(.ref b117)]))
    refine EndsQ.go (b := T117.setTop (mkF m 21 #[.val (.long q1), .second, .val (.long q2), .second, .val (.long q3), .second, .val (.int p4), .val (.int p5), .val (.int p6), .val (.int (1 : Int32)), .val (.ref b117), .unset, .unset, .unset, .unset, .unset, .unset, .unset] [(.long q1), (.int (0 : Int32)), (.ref b117)])) (fun t k => ?_) ?_
    · show Steps p.tables e below (T117.setTop (mkF m 10 #[.val (.long q1), .second, .val (.long q2), .second, .val (.long q3), .second, .val (.int p4), .val (.int p5), .val (.int p6), .val (.int (1 : Int32)), .unset, .unset, .unset, .unset, .unset, .unset, .unset, .unset] [(.ref b117)])) _
      refine XS.astore X117.here hx rfl (hb hby at_10) rfl rfl (l' := #[.val (.long q1), .second, .val (.long q2), .second, .val (.long q3), .second, .val (.int p4), .val (.int p5), .val (.int p6), .val (.int (1 : Int32)), .val (.ref b117), .unset, .unset, .unset, .unset, .unset, .unset, .unset]) rfl ?_
      show Steps p.tables e below (T117.setTop (mkF m 12 #[.val (.long q1), .second, .val (.long q2), .second, .val (.long q3), .second, .val (.int p4), .val (.int p5), .val (.int p6), .val (.int (1 : Int32)), .val (.ref b117), .unset, .unset, .unset, .unset, .unset, .unset, .unset] [])) _
      refine XS.iload X117.here hx rfl (hb hby at_12) rfl ?_
      show Steps p.tables e below (T117.setTop (mkF m 14 #[.val (.long q1), .second, .val (.long q2), .second, .val (.long q3), .second, .val (.int p4), .val (.int p5), .val (.int p6), .val (.int (1 : Int32)), .val (.ref b117), .unset, .unset, .unset, .unset, .unset, .unset, .unset] [(.int (1 : Int32))])) _
      refine XS.ifNo X117.here hx rfl (hb hby at_14) rfl ((if0 _ _).trans (tlt (by decide)).2.2.2) ?_
      show Steps p.tables e below (T117.setTop (mkF m 17 #[.val (.long q1), .second, .val (.long q2), .second, .val (.long q3), .second, .val (.int p4), .val (.int p5), .val (.int p6), .val (.int (1 : Int32)), .val (.ref b117), .unset, .unset, .unset, .unset, .unset, .unset, .unset] [])) _
      refine XS.aload X117.here hx rfl (hb hby at_17) rfl rfl ?_
      show Steps p.tables e below (T117.setTop (mkF m 19 #[.val (.long q1), .second, .val (.long q2), .second, .val (.long q3), .second, .val (.int p4), .val (.int p5), .val (.int p6), .val (.int (1 : Int32)), .val (.ref b117), .unset, .unset, .unset, .unset, .unset, .unset, .unset] [(.ref b117)])) _
      refine XS.iconst X117.here hx rfl (hb hby at_19) ?_
      show Steps p.tables e below (T117.setTop (mkF m 20 #[.val (.long q1), .second, .val (.long q2), .second, .val (.long q3), .second, .val (.int p4), .val (.int p5), .val (.int p6), .val (.int (1 : Int32)), .val (.ref b117), .unset, .unset, .unset, .unset, .unset, .unset, .unset] [(.int (0 : Int32)), (.ref b117)])) _
      refine XS.lloadN X117.here hx rfl (hb hby at_20) rfl ?_
      show Steps p.tables e below (T117.setTop (mkF m 21 #[.val (.long q1), .second, .val (.long q2), .second, .val (.long q3), .second, .val (.int p4), .val (.int p5), .val (.int p6), .val (.int (1 : Int32)), .val (.ref b117), .unset, .unset, .unset, .unset, .unset, .unset, .unset] [(.long q1), (.int (0 : Int32)), (.ref b117)])) _
      exact k
    obtain ⟨cl120, Ar120, q120, S120, M120, H120, G120⟩ := id f119
    have hin120 : ¬ ((0 : Int32) < 0 ∨ cl120.slots.size ≤ ((0 : Int32)).toNatClampNeg) := inb_of S120 ⟨by decide, by decide⟩
    obtain ⟨T120, h120, X120, e120, W120, st120⟩ := stJ X117 hx hZ e117 Ar120 (j := (0 : Int32)) hin120 (g := (mkF m 21 #[.val (.long q1), .second, .val (.long q2), .second, .val (.long q3), .second, .val (.int p4), .val (.int p5), .val (.int p6), .val (.int (1 : Int32)), .val (.ref b117), .unset, .unset, .unset, .unset, .unset, .unset, .unset] [(.long q1), (.int (0 : Int32)), (.ref b117)])) rfl rfl (hb hby at_21)
    have fa120 : Arv Z h120 b117 k117 .long (1 : Int32) [(.long q1)] (.long (0 : Int64)) := Arv.set Ar120 q120 S120 M120 H120 G120 rfl W120 0 rfl (Nat.le_of_ble_eq_true rfl)
    have f121 : n0 ≤ h120.size := Nat.le_trans f118 (Keep.of_wr W120).1
    have N120 := Fr.snoc X120 N0 gn117
    refine EndsQ.go st120 ?_
    show EndsQ _ _ _ _ _ _ _ (T120.setTop (mkF m 22 #[.val (.long q1), .second, .val (.long q2), .second, .val (.long q3), .second, .val (.int p4), .val (.int p5), .val (.int p6), .val (.int (1 : Int32)), .val (.ref b117), .unset, .unset, .unset, .unset, .unset, .unset, .unset] []))
    refine EndsQ.go (b := T120.setTop (mkF m 45 #[.val (.long q1), .second, .val (.long q2), .second, .val (.long q3), .second, .val (.int p4), .val (.int p5), .val (.int p6), .val (.int (1 : Int32)), .val (.ref b117), .unset, .unset, .unset, .unset, .unset, .unset, .unset] [])) (fun t k => ?_) ?_
    · show Steps p.tables e below (T120.setTop (mkF m 22 #[.val (.long q1), .second, .val (.long q2), .second, .val (.long q3), .second, .val (.int p4), .val (.int p5), .val (.int p6), .val (.int (1 : Int32)), .val (.ref b117), .unset, .unset, .unset, .unset, .unset, .unset, .unset] [])) _
      refine XS.iload X120.here hx rfl (hb hby at_22) rfl ?_
      show Steps p.tables e below (T120.setTop (mkF m 24 #[.val (.long q1), .second, .val (.long q2), .second, .val (.long q3), .second, .val (.int p4), .val (.int p5), .val (.int p6), .val (.int (1 : Int32)), .val (.ref b117), .unset, .unset, .unset, .unset, .unset, .unset, .unset] [(.int (1 : Int32))])) _
      refine XS.iconst X120.here hx rfl (hb hby at_24) ?_
      show Steps p.tables e below (T120.setTop (mkF m 25 #[.val (.long q1), .second, .val (.long q2), .second, .val (.long q3), .second, .val (.int p4), .val (.int p5), .val (.int p6), .val (.int (1 : Int32)), .val (.ref b117), .unset, .unset, .unset, .unset, .unset, .unset, .unset] [(.int (1 : Int32)), (.int (1 : Int32))])) _
      refine XS.icmpYes X120.here hx rfl (pc0 := 25) (pc' := 33) rfl (hb hby at_25) rfl (flt (by decide)).2.2.2 (by decide) (by decide) ?_
      show Steps p.tables e below (T120.setTop (mkF m 33 #[.val (.long q1), .second, .val (.long q2), .second, .val (.long q3), .second, .val (.int p4), .val (.int p5), .val (.int p6), .val (.int (1 : Int32)), .val (.ref b117), .unset, .unset, .unset, .unset, .unset, .unset, .unset] [])) _
      refine XS.iload X120.here hx rfl (hb hby at_33) rfl ?_
      show Steps p.tables e below (T120.setTop (mkF m 35 #[.val (.long q1), .second, .val (.long q2), .second, .val (.long q3), .second, .val (.int p4), .val (.int p5), .val (.int p6), .val (.int (1 : Int32)), .val (.ref b117), .unset, .unset, .unset, .unset, .unset, .unset, .unset] [(.int (1 : Int32))])) _
      refine XS.iconst X120.here hx rfl (hb hby at_35) ?_
      show Steps p.tables e below (T120.setTop (mkF m 36 #[.val (.long q1), .second, .val (.long q2), .second, .val (.long q3), .second, .val (.int p4), .val (.int p5), .val (.int p6), .val (.int (1 : Int32)), .val (.ref b117), .unset, .unset, .unset, .unset, .unset, .unset, .unset] [(.int (2 : Int32)), (.int (1 : Int32))])) _
      refine XS.icmpYes X120.here hx rfl (pc0 := 36) (pc' := 45) rfl (hb hby at_36) rfl (flt (by decide)).2.2.2 (by decide) (by decide) ?_
      show Steps p.tables e below (T120.setTop (mkF m 45 #[.val (.long q1), .second, .val (.long q2), .second, .val (.long q3), .second, .val (.int p4), .val (.int p5), .val (.int p6), .val (.int (1 : Int32)), .val (.ref b117), .unset, .unset, .unset, .unset, .unset, .unset, .unset] [])) _
      exact k
    obtain ⟨T122, h122, X122, e122, E122, A122, D122, -, st122⟩ := newO X120 hx hZ hown (hw _ (List.mem_of_getElem? (i := 1) rfl)) (hw _ (List.mem_of_getElem? (i := 2) rfl)) (hw _ (List.mem_of_getElem? (i := 3) rfl)) e120 (g := (mkF m 45 #[.val (.long q1), .second, .val (.long q2), .second, .val (.long q3), .second, .val (.int p4), .val (.int p5), .val (.int p6), .val (.int (1 : Int32)), .val (.ref b117), .unset, .unset, .unset, .unset, .unset, .unset, .unset] [])) rfl (hb hby at_45) (by decide) (by decide)
    obtain ⟨b122, g122⟩ : ∃ z, z = h120.size := ⟨_, rfl⟩
    rw [← g122] at A122 D122 st122
    have gn122 : n0 ≤ b122 := Nat.le_trans f121 (Nat.le_of_eq g122.symm)
    have ne122_b117 : b117 ≠ b122 := Nat.ne_of_lt (Nat.lt_of_lt_of_le fa120.lt (Nat.le_of_eq g122.symm))
    have f123 : n0 ≤ h122.size := Nat.le_trans f121 E122.1
    have f124 : Arv Z h122 b117 k117 .long (1 : Int32) [(.long q1)] (.long (0 : Int64)) := fa120.ext E122
    have f125 : Fld Z h122 b122 "com/example/sextant/sextant/ValueSet" "words" "[J" .null := D122 (Or.inr (hw _ (List.mem_of_getElem? (i := 11) rfl))) (ty := (.array .long)) (by decide)
    refine EndsQ.go st122 ?_
    show EndsQ _ _ _ _ _ _ _ (T122.setTop (mkF m 48 #[.val (.long q1), .second, .val (.long q2), .second, .val (.long q3), .second, .val (.int p4), .val (.int p5), .val (.int p6), .val (.int (1 : Int32)), .val (.ref b117), .unset, .unset, .unset, .unset, .unset, .unset, .unset] [(.ref b122)]))
    refine EndsQ.go (b := T122.setTop (mkF m 51 #[.val (.long q1), .second, .val (.long q2), .second, .val (.long q3), .second, .val (.int p4), .val (.int p5), .val (.int p6), .val (.int (1 : Int32)), .val (.ref b117), .unset, .unset, .unset, .unset, .unset, .unset, .unset] [(.ref b117), (.ref b122), (.ref b122)])) (fun t k => ?_) ?_
    · show Steps p.tables e below (T122.setTop (mkF m 48 #[.val (.long q1), .second, .val (.long q2), .second, .val (.long q3), .second, .val (.int p4), .val (.int p5), .val (.int p6), .val (.int (1 : Int32)), .val (.ref b117), .unset, .unset, .unset, .unset, .unset, .unset, .unset] [(.ref b122)])) _
      refine XS.dup X122.here hx rfl (hb hby at_48) rfl rfl ?_
      show Steps p.tables e below (T122.setTop (mkF m 49 #[.val (.long q1), .second, .val (.long q2), .second, .val (.long q3), .second, .val (.int p4), .val (.int p5), .val (.int p6), .val (.int (1 : Int32)), .val (.ref b117), .unset, .unset, .unset, .unset, .unset, .unset, .unset] [(.ref b122), (.ref b122)])) _
      refine XS.aload X122.here hx rfl (hb hby at_49) rfl rfl ?_
      show Steps p.tables e below (T122.setTop (mkF m 51 #[.val (.long q1), .second, .val (.long q2), .second, .val (.long q3), .second, .val (.int p4), .val (.int p5), .val (.int p6), .val (.int (1 : Int32)), .val (.ref b117), .unset, .unset, .unset, .unset, .unset, .unset, .unset] [(.ref b117), (.ref b122), (.ref b122)])) _
      exact k
    obtain ⟨_, _, ⟨T126, L126, kk126, nn126⟩, -, X126, ⟨Lc126, hQ126, l126, y126, z126⟩, st126⟩ := X122.specialBack hx (y := (⟨"com/example/sextant/sextant/ValueSet", "<init>", "([J)V"⟩ : MethodName)) rfl hown (mvT hZ (hw _ (List.mem_of_getElem? (i := 4) rfl))) (mvT hZ (hw _ (List.mem_of_getElem? (i := 5) rfl))) (mvT hZ (hw _ (List.mem_of_getElem? (i := 6) rfl))) (by decide) (backOf (W := 1) (rmI1 l Z a0 hw [] b122 b117 k117 q1 h122 n0 f123 f125 A122 gn122 f124 (Ne.symm ne122_b117)) hZ (hw _ (List.mem_of_getElem? (i := 6) rfl)) (hw _ (List.mem_of_getElem? (i := 3) rfl)) (by decide) (by decide)) (g := (mkF m 51 #[.val (.long q1), .second, .val (.long q2), .second, .val (.long q3), .second, .val (.int p4), .val (.int p5), .val (.int p6), .val (.int (1 : Int32)), .val (.ref b117), .unset, .unset, .unset, .unset, .unset, .unset, .unset] [(.ref b117), (.ref b122), (.ref b122)])) rfl (by rw [hml]; rfl) (Steps.refl _) (a := b122) (argsL := [(.ref b117)]) (rest := [(.ref b122)]) (lenOf pd_2 rfl) rfl (by show 2 * 0 + _ ≤ _; exact Nat.le_of_eq rfl) (hb hby at_51) (fun _ _ => ⟨rfl, e122, (by decide : 2 + 1 ≤ _), (by decide : 2 + 2 ≤ _)⟩)
    dsimp only [Pt.U, Pt.locs, Pt.cells, Pt.slots] at X126 l126 y126 z126 st126 hQ126
    subst l126 y126 z126
    obtain ⟨c126, kc126, m126, vs126, rfl, Nq126, Kc126, Ex126, Fx126, Vx126, rel126⟩ := hQ126
    have N126 := Fr.app N120 Nq126
    have f127 : n0 ≤ T126.heap.size := Nat.le_trans f123 Kc126.1
    refine EndsQ.go (fun t k => st126.trans k) ?_
    show EndsQ _ _ _ _ _ _ _ (T126.setTop (mkF m 54 #[.val (.long q1), .second, .val (.long q2), .second, .val (.long q3), .second, .val (.int p4), .val (.int p5), .val (.int p6), .val (.int (1 : Int32)), .val (.ref b117), .unset, .unset, .unset, .unset, .unset, .unset, .unset] [(.ref b122)]))
    rcases rel126 with ⟨rfl, rfl⟩ | ⟨hz0, rfl, rfl⟩
    · have ht1 := trivial
      refine EndsQ.go (b := T126.setTop (mkF m 60 #[.val (.long q1), .second, .val (.long q2), .second, .val (.long q3), .second, .val (.int p4), .val (.int p5), .val (.int p6), .val (.int (1 : Int32)), .val (.ref b117), .val (.ref b122), .unset, .unset, .unset, .unset, .unset, .unset] [(.int (p6 &&& (1 : Int32)))])) (fun t k => ?_) ?_
      · show Steps p.tables e below (T126.setTop (mkF m 54 #[.val (.long q1), .second, .val (.long q2), .second, .val (.long q3), .second, .val (.int p4), .val (.int p5), .val (.int p6), .val (.int (1 : Int32)), .val (.ref b117), .unset, .unset, .unset, .unset, .unset, .unset, .unset] [(.ref b122)])) _
        refine XS.astore X126.here hx rfl (hb hby at_54) rfl rfl (l' := #[.val (.long q1), .second, .val (.long q2), .second, .val (.long q3), .second, .val (.int p4), .val (.int p5), .val (.int p6), .val (.int (1 : Int32)), .val (.ref b117), .val (.ref b122), .unset, .unset, .unset, .unset, .unset, .unset]) rfl ?_
        show Steps p.tables e below (T126.setTop (mkF m 56 #[.val (.long q1), .second, .val (.long q2), .second, .val (.long q3), .second, .val (.int p4), .val (.int p5), .val (.int p6), .val (.int (1 : Int32)), .val (.ref b117), .val (.ref b122), .unset, .unset, .unset, .unset, .unset, .unset] [])) _
        refine XS.iload X126.here hx rfl (hb hby at_56) rfl ?_
        show Steps p.tables e below (T126.setTop (mkF m 58 #[.val (.long q1), .second, .val (.long q2), .second, .val (.long q3), .second, .val (.int p4), .val (.int p5), .val (.int p6), .val (.int (1 : Int32)), .val (.ref b117), .val (.ref b122), .unset, .unset, .unset, .unset, .unset, .unset] [(.int p6)])) _
        refine XS.iconst X126.here hx rfl (hb hby at_58) ?_
        show Steps p.tables e below (T126.setTop (mkF m 59 #[.val (.long q1), .second, .val (.long q2), .second, .val (.long q3), .second, .val (.int p4), .val (.int p5), .val (.int p6), .val (.int (1 : Int32)), .val (.ref b117), .val (.ref b122), .unset, .unset, .unset, .unset, .unset, .unset] [(.int (1 : Int32)), (.int p6)])) _
        refine XS.iand X126.here hx rfl (hb hby at_59) rfl ?_
        show Steps p.tables e below (T126.setTop (mkF m 60 #[.val (.long q1), .second, .val (.long q2), .second, .val (.long q3), .second, .val (.int p4), .val (.int p5), .val (.int p6), .val (.int (1 : Int32)), .val (.ref b117), .val (.ref b122), .unset, .unset, .unset, .unset, .unset, .unset] [(.int (p6 &&& (1 : Int32)))])) _
        exact k
      refine EndsQ.go (b := T126.setTop (mkF m 77 #[.val (.long q1), .second, .val (.long q2), .second, .val (.long q3), .second, .val (.int p4), .val (.int p5), .val (.int p6), .val (.int (1 : Int32)), .val (.ref b117), .val (.ref b122), .unset, .unset, .unset, .unset, .unset, .unset] [(.int (if (p6 &&& (1 : Int32)) = (0 : Int32) then (p5 &&& (255 : Int32)) else (p5 &&& (2147483647 : Int32))))])) (fun t k => ?_) ?_
      · by_cases hc60_128 : (p6 &&& (1 : Int32)) = (0 : Int32)
        · refine XS.ifYes X126.here hx rfl (pc0 := 60) (pc' := 71) rfl (hb hby at_60) rfl ((if0 _ _).trans (teq hc60_128).1) (by decide) (by decide) ?_
          show Steps p.tables e below (T126.setTop (mkF m 71 #[.val (.long q1), .second, .val (.long q2), .second, .val (.long q3), .second, .val (.int p4), .val (.int p5), .val (.int p6), .val (.int (1 : Int32)), .val (.ref b117), .val (.ref b122), .unset, .unset, .unset, .unset, .unset, .unset] [])) _
          refine XS.iload X126.here hx rfl (hb hby at_71) rfl ?_
          show Steps p.tables e below (T126.setTop (mkF m 73 #[.val (.long q1), .second, .val (.long q2), .second, .val (.long q3), .second, .val (.int p4), .val (.int p5), .val (.int p6), .val (.int (1 : Int32)), .val (.ref b117), .val (.ref b122), .unset, .unset, .unset, .unset, .unset, .unset] [(.int p5)])) _
          refine XS.sipush X126.here hx rfl (hb hby at_73) ?_
          show Steps p.tables e below (T126.setTop (mkF m 76 #[.val (.long q1), .second, .val (.long q2), .second, .val (.long q3), .second, .val (.int p4), .val (.int p5), .val (.int p6), .val (.int (1 : Int32)), .val (.ref b117), .val (.ref b122), .unset, .unset, .unset, .unset, .unset, .unset] [(.int (255 : Int32)), (.int p5)])) _
          refine XS.iand X126.here hx rfl (hb hby at_76) rfl ?_
          show Steps p.tables e below (T126.setTop (mkF m 77 #[.val (.long q1), .second, .val (.long q2), .second, .val (.long q3), .second, .val (.int p4), .val (.int p5), .val (.int p6), .val (.int (1 : Int32)), .val (.ref b117), .val (.ref b122), .unset, .unset, .unset, .unset, .unset, .unset] [(.int (p5 &&& (255 : Int32)))])) _
          have j0 : (if (p6 &&& (1 : Int32)) = (0 : Int32) then (p5 &&& (255 : Int32)) else (p5 &&& (2147483647 : Int32))) = (p5 &&& (255 : Int32)) := by rw [if_pos hc60_128]
          rw [j0] at k
          exact k
        · refine XS.ifNo X126.here hx rfl (hb hby at_60) rfl ((if0 _ _).trans (feq hc60_128).1) ?_
          show Steps p.tables e below (T126.setTop (mkF m 63 #[.val (.long q1), .second, .val (.long q2), .second, .val (.long q3), .second, .val (.int p4), .val (.int p5), .val (.int p6), .val (.int (1 : Int32)), .val (.ref b117), .val (.ref b122), .unset, .unset, .unset, .unset, .unset, .unset] [])) _
          refine XS.iload X126.here hx rfl (hb hby at_63) rfl ?_
          show Steps p.tables e below (T126.setTop (mkF m 65 #[.val (.long q1), .second, .val (.long q2), .second, .val (.long q3), .second, .val (.int p4), .val (.int p5), .val (.int p6), .val (.int (1 : Int32)), .val (.ref b117), .val (.ref b122), .unset, .unset, .unset, .unset, .unset, .unset] [(.int p5)])) _
          refine X126.ldcInt hx hown (mvT hZ (hw _ (List.mem_of_getElem? (i := 12) rfl))) (g := (mkF m 65 #[.val (.long q1), .second, .val (.long q2), .second, .val (.long q3), .second, .val (.int p4), .val (.int p5), .val (.int p6), .val (.int (1 : Int32)), .val (.ref b117), .val (.ref b122), .unset, .unset, .unset, .unset, .unset, .unset] [(.int p5)])) rfl (hb hby at_65) _ ?_
          show Steps p.tables e below (T126.setTop (mkF m 67 #[.val (.long q1), .second, .val (.long q2), .second, .val (.long q3), .second, .val (.int p4), .val (.int p5), .val (.int p6), .val (.int (1 : Int32)), .val (.ref b117), .val (.ref b122), .unset, .unset, .unset, .unset, .unset, .unset] [(.int (2147483647 : Int32)), (.int p5)])) _
          refine XS.iand X126.here hx rfl (hb hby at_67) rfl ?_
          show Steps p.tables e below (T126.setTop (mkF m 68 #[.val (.long q1), .second, .val (.long q2), .second, .val (.long q3), .second, .val (.int p4), .val (.int p5), .val (.int p6), .val (.int (1 : Int32)), .val (.ref b117), .val (.ref b122), .unset, .unset, .unset, .unset, .unset, .unset] [(.int (p5 &&& (2147483647 : Int32)))])) _
          refine XS.goto X126.here hx rfl (pc0 := 68) (pc' := 77) rfl (hb hby at_68) (by decide) (by decide) ?_
          show Steps p.tables e below (T126.setTop (mkF m 77 #[.val (.long q1), .second, .val (.long q2), .second, .val (.long q3), .second, .val (.int p4), .val (.int p5), .val (.int p6), .val (.int (1 : Int32)), .val (.ref b117), .val (.ref b122), .unset, .unset, .unset, .unset, .unset, .unset] [(.int (p5 &&& (2147483647 : Int32)))])) _
          have j0 : (if (p6 &&& (1 : Int32)) = (0 : Int32) then (p5 &&& (255 : Int32)) else (p5 &&& (2147483647 : Int32))) = (p5 &&& (2147483647 : Int32)) := by rw [if_neg hc60_128]
          rw [j0] at k
          exact k
      generalize hv_vv : (if (p6 &&& (1 : Int32)) = (0 : Int32) then (p5 &&& (255 : Int32)) else (p5 &&& (2147483647 : Int32))) = vv
      have hb_v : 0 ≤ vv.toInt := by rw [← hv_vv]; exact own_v p5 p6
      have hkw := own_kw vv hb_v
      show EndsQ _ _ _ _ _ _ _ (T126.setTop (mkF m 77 #[.val (.long q1), .second, .val (.long q2), .second, .val (.long q3), .second, .val (.int p4), .val (.int p5), .val (.int p6), .val (.int (1 : Int32)), .val (.ref b117), .val (.ref b122), .unset, .unset, .unset, .unset, .unset, .unset] [(.int vv)]))
      refine EndsQ.go (b := T126.setTop (mkF m 86 #[.val (.long q1), .second, .val (.long q2), .second, .val (.long q3), .second, .val (.int p4), .val (.int p5), .val (.int p6), .val (.int (1 : Int32)), .val (.ref b117), .val (.ref b122), .val (.int vv), .val (.int (vv / (64 : Int32))), .unset, .unset, .unset, .unset] [])) (fun t k => ?_) ?_
      · show Steps p.tables e below (T126.setTop (mkF m 77 #[.val (.long q1), .second, .val (.long q2), .second, .val (.long q3), .second, .val (.int p4), .val (.int p5), .val (.int p6), .val (.int (1 : Int32)), .val (.ref b117), .val (.ref b122), .unset, .unset, .unset, .unset, .unset, .unset] [(.int vv)])) _
        refine XS.istore X126.here hx rfl (hb hby at_77) rfl (l' := #[.val (.long q1), .second, .val (.long q2), .second, .val (.long q3), .second, .val (.int p4), .val (.int p5), .val (.int p6), .val (.int (1 : Int32)), .val (.ref b117), .val (.ref b122), .val (.int vv), .unset, .unset, .unset, .unset, .unset]) rfl ?_
        show Steps p.tables e below (T126.setTop (mkF m 79 #[.val (.long q1), .second, .val (.long q2), .second, .val (.long q3), .second, .val (.int p4), .val (.int p5), .val (.int p6), .val (.int (1 : Int32)), .val (.ref b117), .val (.ref b122), .val (.int vv), .unset, .unset, .unset, .unset, .unset] [])) _
        refine XS.iload X126.here hx rfl (hb hby at_79) rfl ?_
        show Steps p.tables e below (T126.setTop (mkF m 81 #[.val (.long q1), .second, .val (.long q2), .second, .val (.long q3), .second, .val (.int p4), .val (.int p5), .val (.int p6), .val (.int (1 : Int32)), .val (.ref b117), .val (.ref b122), .val (.int vv), .unset, .unset, .unset, .unset, .unset] [(.int vv)])) _
        refine XS.bipush X126.here hx rfl (hb hby at_81) ?_
        show Steps p.tables e below (T126.setTop (mkF m 83 #[.val (.long q1), .second, .val (.long q2), .second, .val (.long q3), .second, .val (.int p4), .val (.int p5), .val (.int p6), .val (.int (1 : Int32)), .val (.ref b117), .val (.ref b122), .val (.int vv), .unset, .unset, .unset, .unset, .unset] [(.int (64 : Int32)), (.int vv)])) _
        refine XS.idiv X126.here hx rfl (hb hby at_83) rfl (by decide) ?_
        show Steps p.tables e below (T126.setTop (mkF m 84 #[.val (.long q1), .second, .val (.long q2), .second, .val (.long q3), .second, .val (.int p4), .val (.int p5), .val (.int p6), .val (.int (1 : Int32)), .val (.ref b117), .val (.ref b122), .val (.int vv), .unset, .unset, .unset, .unset, .unset] [(.int (vv / (64 : Int32)))])) _
        refine XS.istore X126.here hx rfl (hb hby at_84) rfl (l' := #[.val (.long q1), .second, .val (.long q2), .second, .val (.long q3), .second, .val (.int p4), .val (.int p5), .val (.int p6), .val (.int (1 : Int32)), .val (.ref b117), .val (.ref b122), .val (.int vv), .val (.int (vv / (64 : Int32))), .unset, .unset, .unset, .unset]) rfl ?_
        show Steps p.tables e below (T126.setTop (mkF m 86 #[.val (.long q1), .second, .val (.long q2), .second, .val (.long q3), .second, .val (.int p4), .val (.int p5), .val (.int p6), .val (.int (1 : Int32)), .val (.ref b117), .val (.ref b122), .val (.int vv), .val (.int (vv / (64 : Int32))), .unset, .unset, .unset, .unset] [])) _
        exact k
      generalize hv_kk : (vv / (64 : Int32)) = kk
      rw [hv_kk] at hkw
      show EndsQ _ _ _ _ _ _ _ (T126.setTop (mkF m 86 #[.val (.long q1), .second, .val (.long q2), .second, .val (.long q3), .second, .val (.int p4), .val (.int p5), .val (.int p6), .val (.int (1 : Int32)), .val (.ref b117), .val (.ref b122), .val (.int vv), .val (.int kk), .unset, .unset, .unset, .unset] []))
      refine EndsQ.go (b := T126.setTop (mkF m 93 #[.val (.long q1), .second, .val (.long q2), .second, .val (.long q3), .second, .val (.int p4), .val (.int p5), .val (.int p6), .val (.int (1 : Int32)), .val (.ref b117), .val (.ref b122), .val (.int vv), .val (.int kk), .val (.int (vv % (64 : Int32))), .unset, .unset, .unset] [])) (fun t k => ?_) ?_
      · show Steps p.tables e below (T126.setTop (mkF m 86 #[.val (.long q1), .second, .val (.long q2), .second, .val (.long q3), .second, .val (.int p4), .val (.int p5), .val (.int p6), .val (.int (1 : Int32)), .val (.ref b117), .val (.ref b122), .val (.int vv), .val (.int kk), .unset, .unset, .unset, .unset] [])) _
        refine XS.iload X126.here hx rfl (hb hby at_86) rfl ?_
        show Steps p.tables e below (T126.setTop (mkF m 88 #[.val (.long q1), .second, .val (.long q2), .second, .val (.long q3), .second, .val (.int p4), .val (.int p5), .val (.int p6), .val (.int (1 : Int32)), .val (.ref b117), .val (.ref b122), .val (.int vv), .val (.int kk), .unset, .unset, .unset, .unset] [(.int vv)])) _
        refine XS.bipush X126.here hx rfl (hb hby at_88) ?_
        show Steps p.tables e below (T126.setTop (mkF m 90 #[.val (.long q1), .second, .val (.long q2), .second, .val (.long q3), .second, .val (.int p4), .val (.int p5), .val (.int p6), .val (.int (1 : Int32)), .val (.ref b117), .val (.ref b122), .val (.int vv), .val (.int kk), .unset, .unset, .unset, .unset] [(.int (64 : Int32)), (.int vv)])) _
        refine iremM X126 hx rfl (hb hby at_90) rfl (by decide) ?_
        show Steps p.tables e below (T126.setTop (mkF m 91 #[.val (.long q1), .second, .val (.long q2), .second, .val (.long q3), .second, .val (.int p4), .val (.int p5), .val (.int p6), .val (.int (1 : Int32)), .val (.ref b117), .val (.ref b122), .val (.int vv), .val (.int kk), .unset, .unset, .unset, .unset] [(.int (vv % (64 : Int32)))])) _
        refine XS.istore X126.here hx rfl (hb hby at_91) rfl (l' := #[.val (.long q1), .second, .val (.long q2), .second, .val (.long q3), .second, .val (.int p4), .val (.int p5), .val (.int p6), .val (.int (1 : Int32)), .val (.ref b117), .val (.ref b122), .val (.int vv), .val (.int kk), .val (.int (vv % (64 : Int32))), .unset, .unset, .unset]) rfl ?_
        show Steps p.tables e below (T126.setTop (mkF m 93 #[.val (.long q1), .second, .val (.long q2), .second, .val (.long q3), .second, .val (.int p4), .val (.int p5), .val (.int p6), .val (.int (1 : Int32)), .val (.ref b117), .val (.ref b122), .val (.int vv), .val (.int kk), .val (.int (vv % (64 : Int32))), .unset, .unset, .unset] [])) _
        exact k
      generalize hv_bb : (vv % (64 : Int32)) = bb
      show EndsQ _ _ _ _ _ _ _ (T126.setTop (mkF m 93 #[.val (.long q1), .second, .val (.long q2), .second, .val (.long q3), .second, .val (.int p4), .val (.int p5), .val (.int p6), .val (.int (1 : Int32)), .val (.ref b117), .val (.ref b122), .val (.int vv), .val (.int kk), .val (.int bb), .unset, .unset, .unset] []))
      refine EndsQ.go (b := T126.setTop (mkF m 97 #[.val (.long q1), .second, .val (.long q2), .second, .val (.long q3), .second, .val (.int p4), .val (.int p5), .val (.int p6), .val (.int (1 : Int32)), .val (.ref b117), .val (.ref b122), .val (.int vv), .val (.int kk), .val (.int bb), .unset, .unset, .unset] [(.int (1 : Int32)), (.int kk)])) (fun t k => ?_) ?_
      · show Steps p.tables e below (T126.setTop (mkF m 93 #[.val (.long q1), .second, .val (.long q2), .second, .val (.long q3), .second, .val (.int p4), .val (.int p5), .val (.int p6), .val (.int (1 : Int32)), .val (.ref b117), .val (.ref b122), .val (.int vv), .val (.int kk), .val (.int bb), .unset, .unset, .unset] [])) _
        refine XS.iload X126.here hx rfl (hb hby at_93) rfl ?_
        show Steps p.tables e below (T126.setTop (mkF m 95 #[.val (.long q1), .second, .val (.long q2), .second, .val (.long q3), .second, .val (.int p4), .val (.int p5), .val (.int p6), .val (.int (1 : Int32)), .val (.ref b117), .val (.ref b122), .val (.int vv), .val (.int kk), .val (.int bb), .unset, .unset, .unset] [(.int kk)])) _
        refine XS.iload X126.here hx rfl (hb hby at_95) rfl ?_
        show Steps p.tables e below (T126.setTop (mkF m 97 #[.val (.long q1), .second, .val (.long q2), .second, .val (.long q3), .second, .val (.int p4), .val (.int p5), .val (.int p6), .val (.int (1 : Int32)), .val (.ref b117), .val (.ref b122), .val (.int vv), .val (.int kk), .val (.int bb), .unset, .unset, .unset] [(.int (1 : Int32)), (.int kk)])) _
        exact k
      by_cases hc97_129 : kk < (1 : Int32)
      · refine EndsQ.go (b := T126.setTop (mkF m 106 #[.val (.long q1), .second, .val (.long q2), .second, .val (.long q3), .second, .val (.int p4), .val (.int p5), .val (.int p6), .val (.int (1 : Int32)), .val (.ref b117), .val (.ref b122), .val (.int vv), .val (.int kk), .val (.int bb), .unset, .unset, .unset] [])) (fun t k => ?_) ?_
        · show Steps p.tables e below (T126.setTop (mkF m 97 #[.val (.long q1), .second, .val (.long q2), .second, .val (.long q3), .second, .val (.int p4), .val (.int p5), .val (.int p6), .val (.int (1 : Int32)), .val (.ref b117), .val (.ref b122), .val (.int vv), .val (.int kk), .val (.int bb), .unset, .unset, .unset] [(.int (1 : Int32)), (.int kk)])) _
          refine XS.icmpYes X126.here hx rfl (pc0 := 97) (pc' := 106) rfl (hb hby at_97) rfl (tlt hc97_129).1 (by decide) (by decide) ?_
          show Steps p.tables e below (T126.setTop (mkF m 106 #[.val (.long q1), .second, .val (.long q2), .second, .val (.long q3), .second, .val (.int p4), .val (.int p5), .val (.int p6), .val (.int (1 : Int32)), .val (.ref b117), .val (.ref b122), .val (.int vv), .val (.int kk), .val (.int bb), .unset, .unset, .unset] [])) _
          exact k
        refine EndsQ.go (b := T126.setTop (mkF m 108 #[.val (.long q1), .second, .val (.long q2), .second, .val (.long q3), .second, .val (.int p4), .val (.int p5), .val (.int p6), .val (.int (1 : Int32)), .val (.ref b117), .val (.ref b122), .val (.int vv), .val (.int kk), .val (.int bb), .unset, .unset, .unset] [(.int kk)])) (fun t k => ?_) ?_
        · show Steps p.tables e below (T126.setTop (mkF m 106 #[.val (.long q1), .second, .val (.long q2), .second, .val (.long q3), .second, .val (.int p4), .val (.int p5), .val (.int p6), .val (.int (1 : Int32)), .val (.ref b117), .val (.ref b122), .val (.int vv), .val (.int kk), .val (.int bb), .unset, .unset, .unset] [])) _
          refine XS.iload X126.here hx rfl (hb hby at_106) rfl ?_
          show Steps p.tables e below (T126.setTop (mkF m 108 #[.val (.long q1), .second, .val (.long q2), .second, .val (.long q3), .second, .val (.int p4), .val (.int p5), .val (.int p6), .val (.int (1 : Int32)), .val (.ref b117), .val (.ref b122), .val (.int vv), .val (.int kk), .val (.int bb), .unset, .unset, .unset] [(.int kk)])) _
          exact k
        refine EndsQ.go (b := T126.setTop (mkF m 127 #[.val (.long q1), .second, .val (.long q2), .second, .val (.long q3), .second, .val (.int p4), .val (.int p5), .val (.int p6), .val (.int (1 : Int32)), .val (.ref b117), .val (.ref b122), .val (.int vv), .val (.int kk), .val (.int bb), .unset, .unset, .unset] [(.long (if kk = (0 : Int32) then q1 else (if kk = (1 : Int32) then q2 else q3)))])) (fun t k => ?_) ?_
        · by_cases hc108_130 : kk = (0 : Int32)
          · refine XS.ifNo X126.here hx rfl (hb hby at_108) rfl ((if0 _ _).trans (teq hc108_130).2) ?_
            show Steps p.tables e below (T126.setTop (mkF m 111 #[.val (.long q1), .second, .val (.long q2), .second, .val (.long q3), .second, .val (.int p4), .val (.int p5), .val (.int p6), .val (.int (1 : Int32)), .val (.ref b117), .val (.ref b122), .val (.int vv), .val (.int kk), .val (.int bb), .unset, .unset, .unset] [])) _
            refine XS.lloadN X126.here hx rfl (hb hby at_111) rfl ?_
            show Steps p.tables e below (T126.setTop (mkF m 112 #[.val (.long q1), .second, .val (.long q2), .second, .val (.long q3), .second, .val (.int p4), .val (.int p5), .val (.int p6), .val (.int (1 : Int32)), .val (.ref b117), .val (.ref b122), .val (.int vv), .val (.int kk), .val (.int bb), .unset, .unset, .unset] [(.long q1)])) _
            refine XS.goto X126.here hx rfl (pc0 := 112) (pc' := 127) rfl (hb hby at_112) (by decide) (by decide) ?_
            show Steps p.tables e below (T126.setTop (mkF m 127 #[.val (.long q1), .second, .val (.long q2), .second, .val (.long q3), .second, .val (.int p4), .val (.int p5), .val (.int p6), .val (.int (1 : Int32)), .val (.ref b117), .val (.ref b122), .val (.int vv), .val (.int kk), .val (.int bb), .unset, .unset, .unset] [(.long q1)])) _
            have j0 : (if kk = (0 : Int32) then q1 else (if kk = (1 : Int32) then q2 else q3)) = q1 := by rw [if_pos hc108_130]
            rw [j0] at k
            exact k
          · refine XS.ifYes X126.here hx rfl (pc0 := 108) (pc' := 115) rfl (hb hby at_108) rfl ((if0 _ _).trans (feq hc108_130).2) (by decide) (by decide) ?_
            show Steps p.tables e below (T126.setTop (mkF m 115 #[.val (.long q1), .second, .val (.long q2), .second, .val (.long q3), .second, .val (.int p4), .val (.int p5), .val (.int p6), .val (.int (1 : Int32)), .val (.ref b117), .val (.ref b122), .val (.int vv), .val (.int kk), .val (.int bb), .unset, .unset, .unset] [])) _
            refine XS.iload X126.here hx rfl (hb hby at_115) rfl ?_
            show Steps p.tables e below (T126.setTop (mkF m 117 #[.val (.long q1), .second, .val (.long q2), .second, .val (.long q3), .second, .val (.int p4), .val (.int p5), .val (.int p6), .val (.int (1 : Int32)), .val (.ref b117), .val (.ref b122), .val (.int vv), .val (.int kk), .val (.int bb), .unset, .unset, .unset] [(.int kk)])) _
            refine XS.iconst X126.here hx rfl (hb hby at_117) ?_
            show Steps p.tables e below (T126.setTop (mkF m 118 #[.val (.long q1), .second, .val (.long q2), .second, .val (.long q3), .second, .val (.int p4), .val (.int p5), .val (.int p6), .val (.int (1 : Int32)), .val (.ref b117), .val (.ref b122), .val (.int vv), .val (.int kk), .val (.int bb), .unset, .unset, .unset] [(.int (1 : Int32)), (.int kk)])) _
            by_cases hc118_131 : kk = (1 : Int32)
            · refine XS.icmpNo X126.here hx rfl (hb hby at_118) rfl (teq hc118_131).2 ?_
              show Steps p.tables e below (T126.setTop (mkF m 121 #[.val (.long q1), .second, .val (.long q2), .second, .val (.long q3), .second, .val (.int p4), .val (.int p5), .val (.int p6), .val (.int (1 : Int32)), .val (.ref b117), .val (.ref b122), .val (.int vv), .val (.int kk), .val (.int bb), .unset, .unset, .unset] [])) _
              refine XS.lloadN X126.here hx rfl (hb hby at_121) rfl ?_
              show Steps p.tables e below (T126.setTop (mkF m 122 #[.val (.long q1), .second, .val (.long q2), .second, .val (.long q3), .second, .val (.int p4), .val (.int p5), .val (.int p6), .val (.int (1 : Int32)), .val (.ref b117), .val (.ref b122), .val (.int vv), .val (.int kk), .val (.int bb), .unset, .unset, .unset] [(.long q2)])) _
              refine XS.goto X126.here hx rfl (pc0 := 122) (pc' := 127) rfl (hb hby at_122) (by decide) (by decide) ?_
              show Steps p.tables e below (T126.setTop (mkF m 127 #[.val (.long q1), .second, .val (.long q2), .second, .val (.long q3), .second, .val (.int p4), .val (.int p5), .val (.int p6), .val (.int (1 : Int32)), .val (.ref b117), .val (.ref b122), .val (.int vv), .val (.int kk), .val (.int bb), .unset, .unset, .unset] [(.long q2)])) _
              have j0 : (if kk = (0 : Int32) then q1 else (if kk = (1 : Int32) then q2 else q3)) = q2 := by rw [if_neg hc108_130, if_pos hc118_131]
              rw [j0] at k
              exact k
            · refine XS.icmpYes X126.here hx rfl (pc0 := 118) (pc' := 125) rfl (hb hby at_118) rfl (feq hc118_131).2 (by decide) (by decide) ?_
              show Steps p.tables e below (T126.setTop (mkF m 125 #[.val (.long q1), .second, .val (.long q2), .second, .val (.long q3), .second, .val (.int p4), .val (.int p5), .val (.int p6), .val (.int (1 : Int32)), .val (.ref b117), .val (.ref b122), .val (.int vv), .val (.int kk), .val (.int bb), .unset, .unset, .unset] [])) _
              refine XS.lload X126.here hx rfl (hb hby at_125) rfl ?_
              show Steps p.tables e below (T126.setTop (mkF m 127 #[.val (.long q1), .second, .val (.long q2), .second, .val (.long q3), .second, .val (.int p4), .val (.int p5), .val (.int p6), .val (.int (1 : Int32)), .val (.ref b117), .val (.ref b122), .val (.int vv), .val (.int kk), .val (.int bb), .unset, .unset, .unset] [(.long q3)])) _
              have j0 : (if kk = (0 : Int32) then q1 else (if kk = (1 : Int32) then q2 else q3)) = q3 := by rw [if_neg hc108_130, if_neg hc118_131]
              rw [j0] at k
              exact k
        generalize hv_ww : (if kk = (0 : Int32) then q1 else (if kk = (1 : Int32) then q2 else q3)) = ww
        show EndsQ _ _ _ _ _ _ _ (T126.setTop (mkF m 127 #[.val (.long q1), .second, .val (.long q2), .second, .val (.long q3), .second, .val (.int p4), .val (.int p5), .val (.int p6), .val (.int (1 : Int32)), .val (.ref b117), .val (.ref b122), .val (.int vv), .val (.int kk), .val (.int bb), .unset, .unset, .unset] [(.long ww)]))
        refine EndsQ.go (b := T126.setTop (mkF m 138 #[.val (.long q1), .second, .val (.long q2), .second, .val (.long q3), .second, .val (.int p4), .val (.int p5), .val (.int p6), .val (.int (1 : Int32)), .val (.ref b117), .val (.ref b122), .val (.int vv), .val (.int kk), .val (.int bb), .unset, .val (.long ww), .second] [(.int (lcmpW (ww &&& ((1 : Int64) <<< (bb &&& 0x3f).toInt64)) (0 : Int64)))])) (fun t k => ?_) ?_
        · show Steps p.tables e below (T126.setTop (mkF m 127 #[.val (.long q1), .second, .val (.long q2), .second, .val (.long q3), .second, .val (.int p4), .val (.int p5), .val (.int p6), .val (.int (1 : Int32)), .val (.ref b117), .val (.ref b122), .val (.int vv), .val (.int kk), .val (.int bb), .unset, .unset, .unset] [(.long ww)])) _
          refine XS.lstore X126.here hx rfl (hb hby at_127) rfl (l' := #[.val (.long q1), .second, .val (.long q2), .second, .val (.long q3), .second, .val (.int p4), .val (.int p5), .val (.int p6), .val (.int (1 : Int32)), .val (.ref b117), .val (.ref b122), .val (.int vv), .val (.int kk), .val (.int bb), .unset, .val (.long ww), .second]) rfl ?_
          show Steps p.tables e below (T126.setTop (mkF m 129 #[.val (.long q1), .second, .val (.long q2), .second, .val (.long q3), .second, .val (.int p4), .val (.int p5), .val (.int p6), .val (.int (1 : Int32)), .val (.ref b117), .val (.ref b122), .val (.int vv), .val (.int kk), .val (.int bb), .unset, .val (.long ww), .second] [])) _
          refine XS.lload X126.here hx rfl (hb hby at_129) rfl ?_
          show Steps p.tables e below (T126.setTop (mkF m 131 #[.val (.long q1), .second, .val (.long q2), .second, .val (.long q3), .second, .val (.int p4), .val (.int p5), .val (.int p6), .val (.int (1 : Int32)), .val (.ref b117), .val (.ref b122), .val (.int vv), .val (.int kk), .val (.int bb), .unset, .val (.long ww), .second] [(.long ww)])) _
          refine XS.lconst X126.here hx rfl (hb hby at_131) ?_
          show Steps p.tables e below (T126.setTop (mkF m 132 #[.val (.long q1), .second, .val (.long q2), .second, .val (.long q3), .second, .val (.int p4), .val (.int p5), .val (.int p6), .val (.int (1 : Int32)), .val (.ref b117), .val (.ref b122), .val (.int vv), .val (.int kk), .val (.int bb), .unset, .val (.long ww), .second] [(.long (1 : Int64)), (.long ww)])) _
          refine XS.iload X126.here hx rfl (hb hby at_132) rfl ?_
          show Steps p.tables e below (T126.setTop (mkF m 134 #[.val (.long q1), .second, .val (.long q2), .second, .val (.long q3), .second, .val (.int p4), .val (.int p5), .val (.int p6), .val (.int (1 : Int32)), .val (.ref b117), .val (.ref b122), .val (.int vv), .val (.int kk), .val (.int bb), .unset, .val (.long ww), .second] [(.int bb), (.long (1 : Int64)), (.long ww)])) _
          refine XS.lshl X126.here hx rfl (hb hby at_134) rfl ?_
          show Steps p.tables e below (T126.setTop (mkF m 135 #[.val (.long q1), .second, .val (.long q2), .second, .val (.long q3), .second, .val (.int p4), .val (.int p5), .val (.int p6), .val (.int (1 : Int32)), .val (.ref b117), .val (.ref b122), .val (.int vv), .val (.int kk), .val (.int bb), .unset, .val (.long ww), .second] [(.long ((1 : Int64) <<< (bb &&& 0x3f).toInt64)), (.long ww)])) _
          refine XS.land X126.here hx rfl (hb hby at_135) rfl ?_
          show Steps p.tables e below (T126.setTop (mkF m 136 #[.val (.long q1), .second, .val (.long q2), .second, .val (.long q3), .second, .val (.int p4), .val (.int p5), .val (.int p6), .val (.int (1 : Int32)), .val (.ref b117), .val (.ref b122), .val (.int vv), .val (.int kk), .val (.int bb), .unset, .val (.long ww), .second] [(.long (ww &&& ((1 : Int64) <<< (bb &&& 0x3f).toInt64)))])) _
          refine XS.lconst X126.here hx rfl (hb hby at_136) ?_
          show Steps p.tables e below (T126.setTop (mkF m 137 #[.val (.long q1), .second, .val (.long q2), .second, .val (.long q3), .second, .val (.int p4), .val (.int p5), .val (.int p6), .val (.int (1 : Int32)), .val (.ref b117), .val (.ref b122), .val (.int vv), .val (.int kk), .val (.int bb), .unset, .val (.long ww), .second] [(.long (0 : Int64)), (.long (ww &&& ((1 : Int64) <<< (bb &&& 0x3f).toInt64)))])) _
          refine XS.lcmp X126.here hx rfl (hb hby at_137) rfl ?_
          show Steps p.tables e below (T126.setTop (mkF m 138 #[.val (.long q1), .second, .val (.long q2), .second, .val (.long q3), .second, .val (.int p4), .val (.int p5), .val (.int p6), .val (.int (1 : Int32)), .val (.ref b117), .val (.ref b122), .val (.int vv), .val (.int kk), .val (.int bb), .unset, .val (.long ww), .second] [(.int (lcmpW (ww &&& ((1 : Int64) <<< (bb &&& 0x3f).toInt64)) (0 : Int64)))])) _
          exact k
        refine EndsQ.go (b := T126.setTop (mkF m 146 #[.val (.long q1), .second, .val (.long q2), .second, .val (.long q3), .second, .val (.int p4), .val (.int p5), .val (.int p6), .val (.int (1 : Int32)), .val (.ref b117), .val (.ref b122), .val (.int vv), .val (.int kk), .val (.int bb), .unset, .val (.long ww), .second] [(.int (if (ww &&& ((1 : Int64) <<< (bb &&& 0x3f).toInt64)) = (0 : Int64) then (0 : Int32) else (1 : Int32)))])) (fun t k => ?_) ?_
        · by_cases hc138_132 : (ww &&& ((1 : Int64) <<< (bb &&& 0x3f).toInt64)) = (0 : Int64)
          · refine XS.ifYes X126.here hx rfl (pc0 := 138) (pc' := 145) rfl (hb hby at_138) rfl ((if0 _ _).trans (teq ((lw_eq (ww &&& ((1 : Int64) <<< (bb &&& 0x3f).toInt64)) (0 : Int64)).mpr hc138_132)).1) (by decide) (by decide) ?_
            show Steps p.tables e below (T126.setTop (mkF m 145 #[.val (.long q1), .second, .val (.long q2), .second, .val (.long q3), .second, .val (.int p4), .val (.int p5), .val (.int p6), .val (.int (1 : Int32)), .val (.ref b117), .val (.ref b122), .val (.int vv), .val (.int kk), .val (.int bb), .unset, .val (.long ww), .second] [])) _
            refine XS.iconst X126.here hx rfl (hb hby at_145) ?_
            show Steps p.tables e below (T126.setTop (mkF m 146 #[.val (.long q1), .second, .val (.long q2), .second, .val (.long q3), .second, .val (.int p4), .val (.int p5), .val (.int p6), .val (.int (1 : Int32)), .val (.ref b117), .val (.ref b122), .val (.int vv), .val (.int kk), .val (.int bb), .unset, .val (.long ww), .second] [(.int (0 : Int32))])) _
            have j0 : (if (ww &&& ((1 : Int64) <<< (bb &&& 0x3f).toInt64)) = (0 : Int64) then (0 : Int32) else (1 : Int32)) = (0 : Int32) := by rw [if_pos hc138_132]
            rw [j0] at k
            exact k
          · refine XS.ifNo X126.here hx rfl (hb hby at_138) rfl ((if0 _ _).trans (feq (fun q => hc138_132 ((lw_eq (ww &&& ((1 : Int64) <<< (bb &&& 0x3f).toInt64)) (0 : Int64)).mp q))).1) ?_
            show Steps p.tables e below (T126.setTop (mkF m 141 #[.val (.long q1), .second, .val (.long q2), .second, .val (.long q3), .second, .val (.int p4), .val (.int p5), .val (.int p6), .val (.int (1 : Int32)), .val (.ref b117), .val (.ref b122), .val (.int vv), .val (.int kk), .val (.int bb), .unset, .val (.long ww), .second] [])) _
            refine XS.iconst X126.here hx rfl (hb hby at_141) ?_
            show Steps p.tables e below (T126.setTop (mkF m 142 #[.val (.long q1), .second, .val (.long q2), .second, .val (.long q3), .second, .val (.int p4), .val (.int p5), .val (.int p6), .val (.int (1 : Int32)), .val (.ref b117), .val (.ref b122), .val (.int vv), .val (.int kk), .val (.int bb), .unset, .val (.long ww), .second] [(.int (1 : Int32))])) _
            refine XS.goto X126.here hx rfl (pc0 := 142) (pc' := 146) rfl (hb hby at_142) (by decide) (by decide) ?_
            show Steps p.tables e below (T126.setTop (mkF m 146 #[.val (.long q1), .second, .val (.long q2), .second, .val (.long q3), .second, .val (.int p4), .val (.int p5), .val (.int p6), .val (.int (1 : Int32)), .val (.ref b117), .val (.ref b122), .val (.int vv), .val (.int kk), .val (.int bb), .unset, .val (.long ww), .second] [(.int (1 : Int32))])) _
            have j0 : (if (ww &&& ((1 : Int64) <<< (bb &&& 0x3f).toInt64)) = (0 : Int64) then (0 : Int32) else (1 : Int32)) = (1 : Int32) := by rw [if_neg hc138_132]
            rw [j0] at k
            exact k
        generalize hv_ee : (if (ww &&& ((1 : Int64) <<< (bb &&& 0x3f).toInt64)) = (0 : Int64) then (0 : Int32) else (1 : Int32)) = ee
        show EndsQ _ _ _ _ _ _ _ (T126.setTop (mkF m 146 #[.val (.long q1), .second, .val (.long q2), .second, .val (.long q3), .second, .val (.int p4), .val (.int p5), .val (.int p6), .val (.int (1 : Int32)), .val (.ref b117), .val (.ref b122), .val (.int vv), .val (.int kk), .val (.int bb), .unset, .val (.long ww), .second] [(.int ee)]))
        refine EndsQ.go (b := T126.setTop (mkF m 152 #[.val (.long q1), .second, .val (.long q2), .second, .val (.long q3), .second, .val (.int p4), .val (.int p5), .val (.int p6), .val (.int (1 : Int32)), .val (.ref b117), .val (.ref b122), .val (.int vv), .val (.int kk), .val (.int bb), .val (.int ee), .val (.long ww), .second] [(.int vv), (.ref b122)])) (fun t k => ?_) ?_
        · show Steps p.tables e below (T126.setTop (mkF m 146 #[.val (.long q1), .second, .val (.long q2), .second, .val (.long q3), .second, .val (.int p4), .val (.int p5), .val (.int p6), .val (.int (1 : Int32)), .val (.ref b117), .val (.ref b122), .val (.int vv), .val (.int kk), .val (.int bb), .unset, .val (.long ww), .second] [(.int ee)])) _
          refine XS.istore X126.here hx rfl (hb hby at_146) rfl (l' := #[.val (.long q1), .second, .val (.long q2), .second, .val (.long q3), .second, .val (.int p4), .val (.int p5), .val (.int p6), .val (.int (1 : Int32)), .val (.ref b117), .val (.ref b122), .val (.int vv), .val (.int kk), .val (.int bb), .val (.int ee), .val (.long ww), .second]) rfl ?_
          show Steps p.tables e below (T126.setTop (mkF m 148 #[.val (.long q1), .second, .val (.long q2), .second, .val (.long q3), .second, .val (.int p4), .val (.int p5), .val (.int p6), .val (.int (1 : Int32)), .val (.ref b117), .val (.ref b122), .val (.int vv), .val (.int kk), .val (.int bb), .val (.int ee), .val (.long ww), .second] [])) _
          refine XS.aload X126.here hx rfl (hb hby at_148) rfl rfl ?_
          show Steps p.tables e below (T126.setTop (mkF m 150 #[.val (.long q1), .second, .val (.long q2), .second, .val (.long q3), .second, .val (.int p4), .val (.int p5), .val (.int p6), .val (.int (1 : Int32)), .val (.ref b117), .val (.ref b122), .val (.int vv), .val (.int kk), .val (.int bb), .val (.int ee), .val (.long ww), .second] [(.ref b122)])) _
          refine XS.iload X126.here hx rfl (hb hby at_150) rfl ?_
          show Steps p.tables e below (T126.setTop (mkF m 152 #[.val (.long q1), .second, .val (.long q2), .second, .val (.long q3), .second, .val (.int p4), .val (.int p5), .val (.int p6), .val (.int (1 : Int32)), .val (.ref b117), .val (.ref b122), .val (.int vv), .val (.int kk), .val (.int bb), .val (.int ee), .val (.long ww), .second] [(.int vv), (.ref b122)])) _
          exact k
        have hsel : own_w vv < (1 : Int32) → (¬ own_w vv < 0 ∧ own_w vv < (1 : Int32)) ∧ ([(.long q1)] : List Value).getD (own_w vv).toNatClampNeg (.long (0 : Int64)) = .long ww := by
          intro hlt
          rw [hkw.1] at hlt ⊢
          rw [← hv_ww]
          rcases own_c3 kk hkw.2 with q | q | q | q
          · rw [q] at hlt ⊢; exact ⟨by decide, rfl⟩
          · rw [q] at hlt ⊢; exact absurd hlt (by decide)
          · rw [q] at hlt ⊢; exact absurd hlt (by decide)
          · exact absurd hlt (own_gt2 kk (1 : Int32) q (by decide))
        have hz0 : ¬ kk < (1 : Int32) → ww = 0 := by
          intro hlt
          rw [← hv_ww]
          rcases own_c3 kk hkw.2 with q | q | q | q
          · rw [q] at hlt hc97_129 ⊢; exact absurd (by decide) hlt
          · rw [q] at hlt hc97_129 ⊢; exact absurd hc97_129 (by decide)
          · rw [q] at hlt hc97_129 ⊢; exact absurd hc97_129 (by decide)
          · exact absurd hc97_129 (own_gt2 kk (1 : Int32) q (by decide))
        obtain ⟨cq133, kq133, qa133, qb133, qc133⟩ := isOf hZ rfl Ex126
        obtain ⟨_, _, ⟨T133, L133, kk133, nn133⟩, -, X133, ⟨Lc133, hQ133, l133, y133, z133⟩, st133⟩ := X126.virtualBack hx (y := (⟨"com/example/sextant/sextant/ValueSet", "contains", "(I)Z"⟩ : MethodName)) (z := (⟨"com/example/sextant/sextant/ValueSet", "contains", "(I)Z"⟩ : MethodName)) hown (mvT hZ (hw _ (List.mem_of_getElem? (i := 13) rfl))) (mvT hZ (hw _ (List.mem_of_getElem? (i := 14) rfl))) (notFace_of_selects (args := #[]) (mvT hZ (hw _ (List.mem_of_getElem? (i := 16) rfl)))) (mvT hZ (hw _ (List.mem_of_getElem? (i := 16) rfl))) (mvT hZ (hw _ (List.mem_of_getElem? (i := 15) rfl))) (by decide) (backOf (W := 0) (rm3 l Z a0 hw [] b122 vv c126 kc126 (1 : Int32) [(.long q1)] ww T126.heap n0 f127 Fx126 Vx126 hsel) hZ (hw _ (List.mem_of_getElem? (i := 17) rfl)) (hw _ (List.mem_of_getElem? (i := 3) rfl)) (by decide) (by decide)) qa133 qc133 (g := (mkF m 152 #[.val (.long q1), .second, .val (.long q2), .second, .val (.long q3), .second, .val (.int p4), .val (.int p5), .val (.int p6), .val (.int (1 : Int32)), .val (.ref b117), .val (.ref b122), .val (.int vv), .val (.int kk), .val (.int bb), .val (.int ee), .val (.long ww), .second] [(.int vv), (.ref b122)])) rfl (by rw [hml]; rfl) (Steps.refl _) (argsL := [(.int vv)]) (rest := []) (lenOf pd_3 rfl) rfl (by show 2 * 0 + _ ≤ _; exact Nat.le_of_eq rfl) (hb hby at_152) (fun _ _ => ⟨rfl, rfl, (by decide : 3 + 0 ≤ _), (by decide : 4 + 0 ≤ _)⟩)
        dsimp only [Pt.U, Pt.locs, Pt.cells, Pt.slots] at X133 l133 y133 z133 st133 hQ133
        subst l133 y133 z133
        obtain ⟨rfl, Nq133, eq133⟩ := hQ133
        have N133 := Fr.app N126 Nq133
        refine EndsQ.go (fun t k => st133.trans k) ?_
        show EndsQ _ _ _ _ _ _ _ (T133.setTop (mkF m 155 #[.val (.long q1), .second, .val (.long q2), .second, .val (.long q3), .second, .val (.int p4), .val (.int p5), .val (.int p6), .val (.int (1 : Int32)), .val (.ref b117), .val (.ref b122), .val (.int vv), .val (.int kk), .val (.int bb), .val (.int ee), .val (.long ww), .second] [(.int (own_has vv (1 : Int32) ww))]))
        refine EndsQ.go (b := T133.setTop (mkF m 165 #[.val (.long q1), .second, .val (.long q2), .second, .val (.long q3), .second, .val (.int p4), .val (.int p5), .val (.int p6), .val (.int (1 : Int32)), .val (.ref b117), .val (.ref b122), .val (.int vv), .val (.int kk), .val (.int bb), .val (.int ee), .val (.long ww), .second] [(.int (1 : Int32))])) (fun t k => ?_) ?_
        · show Steps p.tables e below (T133.setTop (mkF m 155 #[.val (.long q1), .second, .val (.long q2), .second, .val (.long q3), .second, .val (.int p4), .val (.int p5), .val (.int p6), .val (.int (1 : Int32)), .val (.ref b117), .val (.ref b122), .val (.int vv), .val (.int kk), .val (.int bb), .val (.int ee), .val (.long ww), .second] [(.int (own_has vv (1 : Int32) ww))])) _
          refine XS.iload X133.here hx rfl (hb hby at_155) rfl ?_
          show Steps p.tables e below (T133.setTop (mkF m 157 #[.val (.long q1), .second, .val (.long q2), .second, .val (.long q3), .second, .val (.int p4), .val (.int p5), .val (.int p6), .val (.int (1 : Int32)), .val (.ref b117), .val (.ref b122), .val (.int vv), .val (.int kk), .val (.int bb), .val (.int ee), .val (.long ww), .second] [(.int ee), (.int (own_has vv (1 : Int32) ww))])) _
          refine XS.icmpNo X133.here hx rfl (hb hby at_157) rfl (teq ((own_hasB vv (1 : Int32) kk bb ww hb_v hkw.1 hv_bb hz0).trans hv_ee)).2 ?_
          show Steps p.tables e below (T133.setTop (mkF m 160 #[.val (.long q1), .second, .val (.long q2), .second, .val (.long q3), .second, .val (.int p4), .val (.int p5), .val (.int p6), .val (.int (1 : Int32)), .val (.ref b117), .val (.ref b122), .val (.int vv), .val (.int kk), .val (.int bb), .val (.int ee), .val (.long ww), .second] [])) _
          refine XS.iconst X133.here hx rfl (hb hby at_160) ?_
          show Steps p.tables e below (T133.setTop (mkF m 161 #[.val (.long q1), .second, .val (.long q2), .second, .val (.long q3), .second, .val (.int p4), .val (.int p5), .val (.int p6), .val (.int (1 : Int32)), .val (.ref b117), .val (.ref b122), .val (.int vv), .val (.int kk), .val (.int bb), .val (.int ee), .val (.long ww), .second] [(.int (1 : Int32))])) _
          refine XS.goto X133.here hx rfl (pc0 := 161) (pc' := 165) rfl (hb hby at_161) (by decide) (by decide) ?_
          show Steps p.tables e below (T133.setTop (mkF m 165 #[.val (.long q1), .second, .val (.long q2), .second, .val (.long q3), .second, .val (.int p4), .val (.int p5), .val (.int p6), .val (.int (1 : Int32)), .val (.ref b117), .val (.ref b122), .val (.int vv), .val (.int kk), .val (.int bb), .val (.int ee), .val (.long ww), .second] [(.int (1 : Int32))])) _
          exact k
        refine EndsQ.retN X133 hx Bd.notSynchronized (t := .boolean) Bd.returns (by simp) (hb hby at_165) (by decide) (by decide) ?_
        show Q0 Z q1 q2 q3 p4 p5 p6 h0 n0 (some (.int (nar .boolean (1 : Int32)))) T133.heap _
        rw [eq133]
        exact ⟨rfl, N133⟩
      · refine EndsQ.go (b := T126.setTop (mkF m 100 #[.val (.long q1), .second, .val (.long q2), .second, .val (.long q3), .second, .val (.int p4), .val (.int p5), .val (.int p6), .val (.int (1 : Int32)), .val (.ref b117), .val (.ref b122), .val (.int vv), .val (.int kk), .val (.int bb), .unset, .unset, .unset] [])) (fun t k => ?_) ?_
        · show Steps p.tables e below (T126.setTop (mkF m 97 #[.val (.long q1), .second, .val (.long q2), .second, .val (.long q3), .second, .val (.int p4), .val (.int p5), .val (.int p6), .val (.int (1 : Int32)), .val (.ref b117), .val (.ref b122), .val (.int vv), .val (.int kk), .val (.int bb), .unset, .unset, .unset] [(.int (1 : Int32)), (.int kk)])) _
          refine XS.icmpNo X126.here hx rfl (hb hby at_97) rfl (flt hc97_129).1 ?_
          show Steps p.tables e below (T126.setTop (mkF m 100 #[.val (.long q1), .second, .val (.long q2), .second, .val (.long q3), .second, .val (.int p4), .val (.int p5), .val (.int p6), .val (.int (1 : Int32)), .val (.ref b117), .val (.ref b122), .val (.int vv), .val (.int kk), .val (.int bb), .unset, .unset, .unset] [])) _
          exact k
        refine EndsQ.go (b := T126.setTop (mkF m 152 #[.val (.long q1), .second, .val (.long q2), .second, .val (.long q3), .second, .val (.int p4), .val (.int p5), .val (.int p6), .val (.int (1 : Int32)), .val (.ref b117), .val (.ref b122), .val (.int vv), .val (.int kk), .val (.int bb), .val (.int (0 : Int32)), .unset, .unset] [(.int vv), (.ref b122)])) (fun t k => ?_) ?_
        · show Steps p.tables e below (T126.setTop (mkF m 100 #[.val (.long q1), .second, .val (.long q2), .second, .val (.long q3), .second, .val (.int p4), .val (.int p5), .val (.int p6), .val (.int (1 : Int32)), .val (.ref b117), .val (.ref b122), .val (.int vv), .val (.int kk), .val (.int bb), .unset, .unset, .unset] [])) _
          refine XS.iconst X126.here hx rfl (hb hby at_100) ?_
          show Steps p.tables e below (T126.setTop (mkF m 101 #[.val (.long q1), .second, .val (.long q2), .second, .val (.long q3), .second, .val (.int p4), .val (.int p5), .val (.int p6), .val (.int (1 : Int32)), .val (.ref b117), .val (.ref b122), .val (.int vv), .val (.int kk), .val (.int bb), .unset, .unset, .unset] [(.int (0 : Int32))])) _
          refine XS.istore X126.here hx rfl (hb hby at_101) rfl (l' := #[.val (.long q1), .second, .val (.long q2), .second, .val (.long q3), .second, .val (.int p4), .val (.int p5), .val (.int p6), .val (.int (1 : Int32)), .val (.ref b117), .val (.ref b122), .val (.int vv), .val (.int kk), .val (.int bb), .val (.int (0 : Int32)), .unset, .unset]) rfl ?_
          show Steps p.tables e below (T126.setTop (mkF m 103 #[.val (.long q1), .second, .val (.long q2), .second, .val (.long q3), .second, .val (.int p4), .val (.int p5), .val (.int p6), .val (.int (1 : Int32)), .val (.ref b117), .val (.ref b122), .val (.int vv), .val (.int kk), .val (.int bb), .val (.int (0 : Int32)), .unset, .unset] [])) _
          refine XS.goto X126.here hx rfl (pc0 := 103) (pc' := 148) rfl (hb hby at_103) (by decide) (by decide) ?_
          show Steps p.tables e below (T126.setTop (mkF m 148 #[.val (.long q1), .second, .val (.long q2), .second, .val (.long q3), .second, .val (.int p4), .val (.int p5), .val (.int p6), .val (.int (1 : Int32)), .val (.ref b117), .val (.ref b122), .val (.int vv), .val (.int kk), .val (.int bb), .val (.int (0 : Int32)), .unset, .unset] [])) _
          refine XS.aload X126.here hx rfl (hb hby at_148) rfl rfl ?_
          show Steps p.tables e below (T126.setTop (mkF m 150 #[.val (.long q1), .second, .val (.long q2), .second, .val (.long q3), .second, .val (.int p4), .val (.int p5), .val (.int p6), .val (.int (1 : Int32)), .val (.ref b117), .val (.ref b122), .val (.int vv), .val (.int kk), .val (.int bb), .val (.int (0 : Int32)), .unset, .unset] [(.ref b122)])) _
          refine XS.iload X126.here hx rfl (hb hby at_150) rfl ?_
          show Steps p.tables e below (T126.setTop (mkF m 152 #[.val (.long q1), .second, .val (.long q2), .second, .val (.long q3), .second, .val (.int p4), .val (.int p5), .val (.int p6), .val (.int (1 : Int32)), .val (.ref b117), .val (.ref b122), .val (.int vv), .val (.int kk), .val (.int bb), .val (.int (0 : Int32)), .unset, .unset] [(.int vv), (.ref b122)])) _
          exact k
        obtain ⟨cq134, kq134, qa134, qb134, qc134⟩ := isOf hZ rfl Ex126
        obtain ⟨_, _, ⟨T134, L134, kk134, nn134⟩, -, X134, ⟨Lc134, hQ134, l134, y134, z134⟩, st134⟩ := X126.virtualBack hx (y := (⟨"com/example/sextant/sextant/ValueSet", "contains", "(I)Z"⟩ : MethodName)) (z := (⟨"com/example/sextant/sextant/ValueSet", "contains", "(I)Z"⟩ : MethodName)) hown (mvT hZ (hw _ (List.mem_of_getElem? (i := 13) rfl))) (mvT hZ (hw _ (List.mem_of_getElem? (i := 14) rfl))) (notFace_of_selects (args := #[]) (mvT hZ (hw _ (List.mem_of_getElem? (i := 16) rfl)))) (mvT hZ (hw _ (List.mem_of_getElem? (i := 16) rfl))) (mvT hZ (hw _ (List.mem_of_getElem? (i := 15) rfl))) (by decide) (backOf (W := 0) (rm3 l Z a0 hw [] b122 vv c126 kc126 (1 : Int32) [(.long q1)] (0 : Int64) T126.heap n0 f127 Fx126 Vx126 (fun hlt => absurd hlt (by rw [hkw.1]; exact own_mono kk (1 : Int32) (1 : Int32) hc97_129 (by decide)))) hZ (hw _ (List.mem_of_getElem? (i := 17) rfl)) (hw _ (List.mem_of_getElem? (i := 3) rfl)) (by decide) (by decide)) qa134 qc134 (g := (mkF m 152 #[.val (.long q1), .second, .val (.long q2), .second, .val (.long q3), .second, .val (.int p4), .val (.int p5), .val (.int p6), .val (.int (1 : Int32)), .val (.ref b117), .val (.ref b122), .val (.int vv), .val (.int kk), .val (.int bb), .val (.int (0 : Int32)), .unset, .unset] [(.int vv), (.ref b122)])) rfl (by rw [hml]; rfl) (Steps.refl _) (argsL := [(.int vv)]) (rest := []) (lenOf pd_3 rfl) rfl (by show 2 * 0 + _ ≤ _; exact Nat.le_of_eq rfl) (hb hby at_152) (fun _ _ => ⟨rfl, rfl, (by decide : 3 + 0 ≤ _), (by decide : 4 + 0 ≤ _)⟩)
        dsimp only [Pt.U, Pt.locs, Pt.cells, Pt.slots] at X134 l134 y134 z134 st134 hQ134
        subst l134 y134 z134
        obtain ⟨rfl, Nq134, eq134⟩ := hQ134
        have N134 := Fr.app N126 Nq134
        refine EndsQ.go (fun t k => st134.trans k) ?_
        show EndsQ _ _ _ _ _ _ _ (T134.setTop (mkF m 155 #[.val (.long q1), .second, .val (.long q2), .second, .val (.long q3), .second, .val (.int p4), .val (.int p5), .val (.int p6), .val (.int (1 : Int32)), .val (.ref b117), .val (.ref b122), .val (.int vv), .val (.int kk), .val (.int bb), .val (.int (0 : Int32)), .unset, .unset] [(.int (own_has vv (1 : Int32) (0 : Int64)))]))
        refine EndsQ.go (b := T134.setTop (mkF m 165 #[.val (.long q1), .second, .val (.long q2), .second, .val (.long q3), .second, .val (.int p4), .val (.int p5), .val (.int p6), .val (.int (1 : Int32)), .val (.ref b117), .val (.ref b122), .val (.int vv), .val (.int kk), .val (.int bb), .val (.int (0 : Int32)), .unset, .unset] [(.int (1 : Int32))])) (fun t k => ?_) ?_
        · show Steps p.tables e below (T134.setTop (mkF m 155 #[.val (.long q1), .second, .val (.long q2), .second, .val (.long q3), .second, .val (.int p4), .val (.int p5), .val (.int p6), .val (.int (1 : Int32)), .val (.ref b117), .val (.ref b122), .val (.int vv), .val (.int kk), .val (.int bb), .val (.int (0 : Int32)), .unset, .unset] [(.int (own_has vv (1 : Int32) (0 : Int64)))])) _
          refine XS.iload X134.here hx rfl (hb hby at_155) rfl ?_
          show Steps p.tables e below (T134.setTop (mkF m 157 #[.val (.long q1), .second, .val (.long q2), .second, .val (.long q3), .second, .val (.int p4), .val (.int p5), .val (.int p6), .val (.int (1 : Int32)), .val (.ref b117), .val (.ref b122), .val (.int vv), .val (.int kk), .val (.int bb), .val (.int (0 : Int32)), .unset, .unset] [(.int (0 : Int32)), (.int (own_has vv (1 : Int32) (0 : Int64)))])) _
          refine XS.icmpNo X134.here hx rfl (hb hby at_157) rfl (teq (own_hasA vv (1 : Int32) kk (0 : Int64) hkw.1 (own_mono kk (1 : Int32) (1 : Int32) hc97_129 (by decide)))).2 ?_
          show Steps p.tables e below (T134.setTop (mkF m 160 #[.val (.long q1), .second, .val (.long q2), .second, .val (.long q3), .second, .val (.int p4), .val (.int p5), .val (.int p6), .val (.int (1 : Int32)), .val (.ref b117), .val (.ref b122), .val (.int vv), .val (.int kk), .val (.int bb), .val (.int (0 : Int32)), .unset, .unset] [])) _
          refine XS.iconst X134.here hx rfl (hb hby at_160) ?_
          show Steps p.tables e below (T134.setTop (mkF m 161 #[.val (.long q1), .second, .val (.long q2), .second, .val (.long q3), .second, .val (.int p4), .val (.int p5), .val (.int p6), .val (.int (1 : Int32)), .val (.ref b117), .val (.ref b122), .val (.int vv), .val (.int kk), .val (.int bb), .val (.int (0 : Int32)), .unset, .unset] [(.int (1 : Int32))])) _
          refine XS.goto X134.here hx rfl (pc0 := 161) (pc' := 165) rfl (hb hby at_161) (by decide) (by decide) ?_
          show Steps p.tables e below (T134.setTop (mkF m 165 #[.val (.long q1), .second, .val (.long q2), .second, .val (.long q3), .second, .val (.int p4), .val (.int p5), .val (.int p6), .val (.int (1 : Int32)), .val (.ref b117), .val (.ref b122), .val (.int vv), .val (.int kk), .val (.int bb), .val (.int (0 : Int32)), .unset, .unset] [(.int (1 : Int32))])) _
          exact k
        refine EndsQ.retN X134 hx Bd.notSynchronized (t := .boolean) Bd.returns (by simp) (hb hby at_165) (by decide) (by decide) ?_
        show Q0 Z q1 q2 q3 p4 p5 p6 h0 n0 (some (.int (nar .boolean (1 : Int32)))) T134.heap _
        rw [eq134]
        exact ⟨rfl, N134⟩
    · have ht0 := trivial
      refine EndsQ.go (b := T126.setTop (mkF m 60 #[.val (.long q1), .second, .val (.long q2), .second, .val (.long q3), .second, .val (.int p4), .val (.int p5), .val (.int p6), .val (.int (1 : Int32)), .val (.ref b117), .val (.ref b122), .unset, .unset, .unset, .unset, .unset, .unset] [(.int (p6 &&& (1 : Int32)))])) (fun t k => ?_) ?_
      · show Steps p.tables e below (T126.setTop (mkF m 54 #[.val (.long q1), .second, .val (.long q2), .second, .val (.long q3), .second, .val (.int p4), .val (.int p5), .val (.int p6), .val (.int (1 : Int32)), .val (.ref b117), .unset, .unset, .unset, .unset, .unset, .unset, .unset] [(.ref b122)])) _
        refine XS.astore X126.here hx rfl (hb hby at_54) rfl rfl (l' := #[.val (.long q1), .second, .val (.long q2), .second, .val (.long q3), .second, .val (.int p4), .val (.int p5), .val (.int p6), .val (.int (1 : Int32)), .val (.ref b117), .val (.ref b122), .unset, .unset, .unset, .unset, .unset, .unset]) rfl ?_
        show Steps p.tables e below (T126.setTop (mkF m 56 #[.val (.long q1), .second, .val (.long q2), .second, .val (.long q3), .second, .val (.int p4), .val (.int p5), .val (.int p6), .val (.int (1 : Int32)), .val (.ref b117), .val (.ref b122), .unset, .unset, .unset, .unset, .unset, .unset] [])) _
        refine XS.iload X126.here hx rfl (hb hby at_56) rfl ?_
        show Steps p.tables e below (T126.setTop (mkF m 58 #[.val (.long q1), .second, .val (.long q2), .second, .val (.long q3), .second, .val (.int p4), .val (.int p5), .val (.int p6), .val (.int (1 : Int32)), .val (.ref b117), .val (.ref b122), .unset, .unset, .unset, .unset, .unset, .unset] [(.int p6)])) _
        refine XS.iconst X126.here hx rfl (hb hby at_58) ?_
        show Steps p.tables e below (T126.setTop (mkF m 59 #[.val (.long q1), .second, .val (.long q2), .second, .val (.long q3), .second, .val (.int p4), .val (.int p5), .val (.int p6), .val (.int (1 : Int32)), .val (.ref b117), .val (.ref b122), .unset, .unset, .unset, .unset, .unset, .unset] [(.int (1 : Int32)), (.int p6)])) _
        refine XS.iand X126.here hx rfl (hb hby at_59) rfl ?_
        show Steps p.tables e below (T126.setTop (mkF m 60 #[.val (.long q1), .second, .val (.long q2), .second, .val (.long q3), .second, .val (.int p4), .val (.int p5), .val (.int p6), .val (.int (1 : Int32)), .val (.ref b117), .val (.ref b122), .unset, .unset, .unset, .unset, .unset, .unset] [(.int (p6 &&& (1 : Int32)))])) _
        exact k
      refine EndsQ.go (b := T126.setTop (mkF m 77 #[.val (.long q1), .second, .val (.long q2), .second, .val (.long q3), .second, .val (.int p4), .val (.int p5), .val (.int p6), .val (.int (1 : Int32)), .val (.ref b117), .val (.ref b122), .unset, .unset, .unset, .unset, .unset, .unset] [(.int (if (p6 &&& (1 : Int32)) = (0 : Int32) then (p5 &&& (255 : Int32)) else (p5 &&& (2147483647 : Int32))))])) (fun t k => ?_) ?_
      · by_cases hc60_135 : (p6 &&& (1 : Int32)) = (0 : Int32)
        · refine XS.ifYes X126.here hx rfl (pc0 := 60) (pc' := 71) rfl (hb hby at_60) rfl ((if0 _ _).trans (teq hc60_135).1) (by decide) (by decide) ?_
          show Steps p.tables e below (T126.setTop (mkF m 71 #[.val (.long q1), .second, .val (.long q2), .second, .val (.long q3), .second, .val (.int p4), .val (.int p5), .val (.int p6), .val (.int (1 : Int32)), .val (.ref b117), .val (.ref b122), .unset, .unset, .unset, .unset, .unset, .unset] [])) _
          refine XS.iload X126.here hx rfl (hb hby at_71) rfl ?_
          show Steps p.tables e below (T126.setTop (mkF m 73 #[.val (.long q1), .second, .val (.long q2), .second, .val (.long q3), .second, .val (.int p4), .val (.int p5), .val (.int p6), .val (.int (1 : Int32)), .val (.ref b117), .val (.ref b122), .unset, .unset, .unset, .unset, .unset, .unset] [(.int p5)])) _
          refine XS.sipush X126.here hx rfl (hb hby at_73) ?_
          show Steps p.tables e below (T126.setTop (mkF m 76 #[.val (.long q1), .second, .val (.long q2), .second, .val (.long q3), .second, .val (.int p4), .val (.int p5), .val (.int p6), .val (.int (1 : Int32)), .val (.ref b117), .val (.ref b122), .unset, .unset, .unset, .unset, .unset, .unset] [(.int (255 : Int32)), (.int p5)])) _
          refine XS.iand X126.here hx rfl (hb hby at_76) rfl ?_
          show Steps p.tables e below (T126.setTop (mkF m 77 #[.val (.long q1), .second, .val (.long q2), .second, .val (.long q3), .second, .val (.int p4), .val (.int p5), .val (.int p6), .val (.int (1 : Int32)), .val (.ref b117), .val (.ref b122), .unset, .unset, .unset, .unset, .unset, .unset] [(.int (p5 &&& (255 : Int32)))])) _
          have j0 : (if (p6 &&& (1 : Int32)) = (0 : Int32) then (p5 &&& (255 : Int32)) else (p5 &&& (2147483647 : Int32))) = (p5 &&& (255 : Int32)) := by rw [if_pos hc60_135]
          rw [j0] at k
          exact k
        · refine XS.ifNo X126.here hx rfl (hb hby at_60) rfl ((if0 _ _).trans (feq hc60_135).1) ?_
          show Steps p.tables e below (T126.setTop (mkF m 63 #[.val (.long q1), .second, .val (.long q2), .second, .val (.long q3), .second, .val (.int p4), .val (.int p5), .val (.int p6), .val (.int (1 : Int32)), .val (.ref b117), .val (.ref b122), .unset, .unset, .unset, .unset, .unset, .unset] [])) _
          refine XS.iload X126.here hx rfl (hb hby at_63) rfl ?_
          show Steps p.tables e below (T126.setTop (mkF m 65 #[.val (.long q1), .second, .val (.long q2), .second, .val (.long q3), .second, .val (.int p4), .val (.int p5), .val (.int p6), .val (.int (1 : Int32)), .val (.ref b117), .val (.ref b122), .unset, .unset, .unset, .unset, .unset, .unset] [(.int p5)])) _
          refine X126.ldcInt hx hown (mvT hZ (hw _ (List.mem_of_getElem? (i := 12) rfl))) (g := (mkF m 65 #[.val (.long q1), .second, .val (.long q2), .second, .val (.long q3), .second, .val (.int p4), .val (.int p5), .val (.int p6), .val (.int (1 : Int32)), .val (.ref b117), .val (.ref b122), .unset, .unset, .unset, .unset, .unset, .unset] [(.int p5)])) rfl (hb hby at_65) _ ?_
          show Steps p.tables e below (T126.setTop (mkF m 67 #[.val (.long q1), .second, .val (.long q2), .second, .val (.long q3), .second, .val (.int p4), .val (.int p5), .val (.int p6), .val (.int (1 : Int32)), .val (.ref b117), .val (.ref b122), .unset, .unset, .unset, .unset, .unset, .unset] [(.int (2147483647 : Int32)), (.int p5)])) _
          refine XS.iand X126.here hx rfl (hb hby at_67) rfl ?_
          show Steps p.tables e below (T126.setTop (mkF m 68 #[.val (.long q1), .second, .val (.long q2), .second, .val (.long q3), .second, .val (.int p4), .val (.int p5), .val (.int p6), .val (.int (1 : Int32)), .val (.ref b117), .val (.ref b122), .unset, .unset, .unset, .unset, .unset, .unset] [(.int (p5 &&& (2147483647 : Int32)))])) _
          refine XS.goto X126.here hx rfl (pc0 := 68) (pc' := 77) rfl (hb hby at_68) (by decide) (by decide) ?_
          show Steps p.tables e below (T126.setTop (mkF m 77 #[.val (.long q1), .second, .val (.long q2), .second, .val (.long q3), .second, .val (.int p4), .val (.int p5), .val (.int p6), .val (.int (1 : Int32)), .val (.ref b117), .val (.ref b122), .unset, .unset, .unset, .unset, .unset, .unset] [(.int (p5 &&& (2147483647 : Int32)))])) _
          have j0 : (if (p6 &&& (1 : Int32)) = (0 : Int32) then (p5 &&& (255 : Int32)) else (p5 &&& (2147483647 : Int32))) = (p5 &&& (2147483647 : Int32)) := by rw [if_neg hc60_135]
          rw [j0] at k
          exact k
      generalize hv_vv : (if (p6 &&& (1 : Int32)) = (0 : Int32) then (p5 &&& (255 : Int32)) else (p5 &&& (2147483647 : Int32))) = vv
      have hb_v : 0 ≤ vv.toInt := by rw [← hv_vv]; exact own_v p5 p6
      have hkw := own_kw vv hb_v
      show EndsQ _ _ _ _ _ _ _ (T126.setTop (mkF m 77 #[.val (.long q1), .second, .val (.long q2), .second, .val (.long q3), .second, .val (.int p4), .val (.int p5), .val (.int p6), .val (.int (1 : Int32)), .val (.ref b117), .val (.ref b122), .unset, .unset, .unset, .unset, .unset, .unset] [(.int vv)]))
      refine EndsQ.go (b := T126.setTop (mkF m 86 #[.val (.long q1), .second, .val (.long q2), .second, .val (.long q3), .second, .val (.int p4), .val (.int p5), .val (.int p6), .val (.int (1 : Int32)), .val (.ref b117), .val (.ref b122), .val (.int vv), .val (.int (vv / (64 : Int32))), .unset, .unset, .unset, .unset] [])) (fun t k => ?_) ?_
      · show Steps p.tables e below (T126.setTop (mkF m 77 #[.val (.long q1), .second, .val (.long q2), .second, .val (.long q3), .second, .val (.int p4), .val (.int p5), .val (.int p6), .val (.int (1 : Int32)), .val (.ref b117), .val (.ref b122), .unset, .unset, .unset, .unset, .unset, .unset] [(.int vv)])) _
        refine XS.istore X126.here hx rfl (hb hby at_77) rfl (l' := #[.val (.long q1), .second, .val (.long q2), .second, .val (.long q3), .second, .val (.int p4), .val (.int p5), .val (.int p6), .val (.int (1 : Int32)), .val (.ref b117), .val (.ref b122), .val (.int vv), .unset, .unset, .unset, .unset, .unset]) rfl ?_
        show Steps p.tables e below (T126.setTop (mkF m 79 #[.val (.long q1), .second, .val (.long q2), .second, .val (.long q3), .second, .val (.int p4), .val (.int p5), .val (.int p6), .val (.int (1 : Int32)), .val (.ref b117), .val (.ref b122), .val (.int vv), .unset, .unset, .unset, .unset, .unset] [])) _
        refine XS.iload X126.here hx rfl (hb hby at_79) rfl ?_
        show Steps p.tables e below (T126.setTop (mkF m 81 #[.val (.long q1), .second, .val (.long q2), .second, .val (.long q3), .second, .val (.int p4), .val (.int p5), .val (.int p6), .val (.int (1 : Int32)), .val (.ref b117), .val (.ref b122), .val (.int vv), .unset, .unset, .unset, .unset, .unset] [(.int vv)])) _
        refine XS.bipush X126.here hx rfl (hb hby at_81) ?_
        show Steps p.tables e below (T126.setTop (mkF m 83 #[.val (.long q1), .second, .val (.long q2), .second, .val (.long q3), .second, .val (.int p4), .val (.int p5), .val (.int p6), .val (.int (1 : Int32)), .val (.ref b117), .val (.ref b122), .val (.int vv), .unset, .unset, .unset, .unset, .unset] [(.int (64 : Int32)), (.int vv)])) _
        refine XS.idiv X126.here hx rfl (hb hby at_83) rfl (by decide) ?_
        show Steps p.tables e below (T126.setTop (mkF m 84 #[.val (.long q1), .second, .val (.long q2), .second, .val (.long q3), .second, .val (.int p4), .val (.int p5), .val (.int p6), .val (.int (1 : Int32)), .val (.ref b117), .val (.ref b122), .val (.int vv), .unset, .unset, .unset, .unset, .unset] [(.int (vv / (64 : Int32)))])) _
        refine XS.istore X126.here hx rfl (hb hby at_84) rfl (l' := #[.val (.long q1), .second, .val (.long q2), .second, .val (.long q3), .second, .val (.int p4), .val (.int p5), .val (.int p6), .val (.int (1 : Int32)), .val (.ref b117), .val (.ref b122), .val (.int vv), .val (.int (vv / (64 : Int32))), .unset, .unset, .unset, .unset]) rfl ?_
        show Steps p.tables e below (T126.setTop (mkF m 86 #[.val (.long q1), .second, .val (.long q2), .second, .val (.long q3), .second, .val (.int p4), .val (.int p5), .val (.int p6), .val (.int (1 : Int32)), .val (.ref b117), .val (.ref b122), .val (.int vv), .val (.int (vv / (64 : Int32))), .unset, .unset, .unset, .unset] [])) _
        exact k
      generalize hv_kk : (vv / (64 : Int32)) = kk
      rw [hv_kk] at hkw
      show EndsQ _ _ _ _ _ _ _ (T126.setTop (mkF m 86 #[.val (.long q1), .second, .val (.long q2), .second, .val (.long q3), .second, .val (.int p4), .val (.int p5), .val (.int p6), .val (.int (1 : Int32)), .val (.ref b117), .val (.ref b122), .val (.int vv), .val (.int kk), .unset, .unset, .unset, .unset] []))
      refine EndsQ.go (b := T126.setTop (mkF m 93 #[.val (.long q1), .second, .val (.long q2), .second, .val (.long q3), .second, .val (.int p4), .val (.int p5), .val (.int p6), .val (.int (1 : Int32)), .val (.ref b117), .val (.ref b122), .val (.int vv), .val (.int kk), .val (.int (vv % (64 : Int32))), .unset, .unset, .unset] [])) (fun t k => ?_) ?_
      · show Steps p.tables e below (T126.setTop (mkF m 86 #[.val (.long q1), .second, .val (.long q2), .second, .val (.long q3), .second, .val (.int p4), .val (.int p5), .val (.int p6), .val (.int (1 : Int32)), .val (.ref b117), .val (.ref b122), .val (.int vv), .val (.int kk), .unset, .unset, .unset, .unset] [])) _
        refine XS.iload X126.here hx rfl (hb hby at_86) rfl ?_
        show Steps p.tables e below (T126.setTop (mkF m 88 #[.val (.long q1), .second, .val (.long q2), .second, .val (.long q3), .second, .val (.int p4), .val (.int p5), .val (.int p6), .val (.int (1 : Int32)), .val (.ref b117), .val (.ref b122), .val (.int vv), .val (.int kk), .unset, .unset, .unset, .unset] [(.int vv)])) _
        refine XS.bipush X126.here hx rfl (hb hby at_88) ?_
        show Steps p.tables e below (T126.setTop (mkF m 90 #[.val (.long q1), .second, .val (.long q2), .second, .val (.long q3), .second, .val (.int p4), .val (.int p5), .val (.int p6), .val (.int (1 : Int32)), .val (.ref b117), .val (.ref b122), .val (.int vv), .val (.int kk), .unset, .unset, .unset, .unset] [(.int (64 : Int32)), (.int vv)])) _
        refine iremM X126 hx rfl (hb hby at_90) rfl (by decide) ?_
        show Steps p.tables e below (T126.setTop (mkF m 91 #[.val (.long q1), .second, .val (.long q2), .second, .val (.long q3), .second, .val (.int p4), .val (.int p5), .val (.int p6), .val (.int (1 : Int32)), .val (.ref b117), .val (.ref b122), .val (.int vv), .val (.int kk), .unset, .unset, .unset, .unset] [(.int (vv % (64 : Int32)))])) _
        refine XS.istore X126.here hx rfl (hb hby at_91) rfl (l' := #[.val (.long q1), .second, .val (.long q2), .second, .val (.long q3), .second, .val (.int p4), .val (.int p5), .val (.int p6), .val (.int (1 : Int32)), .val (.ref b117), .val (.ref b122), .val (.int vv), .val (.int kk), .val (.int (vv % (64 : Int32))), .unset, .unset, .unset]) rfl ?_
        show Steps p.tables e below (T126.setTop (mkF m 93 #[.val (.long q1), .second, .val (.long q2), .second, .val (.long q3), .second, .val (.int p4), .val (.int p5), .val (.int p6), .val (.int (1 : Int32)), .val (.ref b117), .val (.ref b122), .val (.int vv), .val (.int kk), .val (.int (vv % (64 : Int32))), .unset, .unset, .unset] [])) _
        exact k
      generalize hv_bb : (vv % (64 : Int32)) = bb
      show EndsQ _ _ _ _ _ _ _ (T126.setTop (mkF m 93 #[.val (.long q1), .second, .val (.long q2), .second, .val (.long q3), .second, .val (.int p4), .val (.int p5), .val (.int p6), .val (.int (1 : Int32)), .val (.ref b117), .val (.ref b122), .val (.int vv), .val (.int kk), .val (.int bb), .unset, .unset, .unset] []))
      refine EndsQ.go (b := T126.setTop (mkF m 97 #[.val (.long q1), .second, .val (.long q2), .second, .val (.long q3), .second, .val (.int p4), .val (.int p5), .val (.int p6), .val (.int (1 : Int32)), .val (.ref b117), .val (.ref b122), .val (.int vv), .val (.int kk), .val (.int bb), .unset, .unset, .unset] [(.int (1 : Int32)), (.int kk)])) (fun t k => ?_) ?_
      · show Steps p.tables e below (T126.setTop (mkF m 93 #[.val (.long q1), .second, .val (.long q2), .second, .val (.long q3), .second, .val (.int p4), .val (.int p5), .val (.int p6), .val (.int (1 : Int32)), .val (.ref b117), .val (.ref b122), .val (.int vv), .val (.int kk), .val (.int bb), .unset, .unset, .unset] [])) _
        refine XS.iload X126.here hx rfl (hb hby at_93) rfl ?_
        show Steps p.tables e below (T126.setTop (mkF m 95 #[.val (.long q1), .second, .val (.long q2), .second, .val (.long q3), .second, .val (.int p4), .val (.int p5), .val (.int p6), .val (.int (1 : Int32)), .val (.ref b117), .val (.ref b122), .val (.int vv), .val (.int kk), .val (.int bb), .unset, .unset, .unset] [(.int kk)])) _
        refine XS.iload X126.here hx rfl (hb hby at_95) rfl ?_
        show Steps p.tables e below (T126.setTop (mkF m 97 #[.val (.long q1), .second, .val (.long q2), .second, .val (.long q3), .second, .val (.int p4), .val (.int p5), .val (.int p6), .val (.int (1 : Int32)), .val (.ref b117), .val (.ref b122), .val (.int vv), .val (.int kk), .val (.int bb), .unset, .unset, .unset] [(.int (1 : Int32)), (.int kk)])) _
        exact k
      by_cases hc97_136 : kk < (1 : Int32)
      · refine EndsQ.go (b := T126.setTop (mkF m 106 #[.val (.long q1), .second, .val (.long q2), .second, .val (.long q3), .second, .val (.int p4), .val (.int p5), .val (.int p6), .val (.int (1 : Int32)), .val (.ref b117), .val (.ref b122), .val (.int vv), .val (.int kk), .val (.int bb), .unset, .unset, .unset] [])) (fun t k => ?_) ?_
        · show Steps p.tables e below (T126.setTop (mkF m 97 #[.val (.long q1), .second, .val (.long q2), .second, .val (.long q3), .second, .val (.int p4), .val (.int p5), .val (.int p6), .val (.int (1 : Int32)), .val (.ref b117), .val (.ref b122), .val (.int vv), .val (.int kk), .val (.int bb), .unset, .unset, .unset] [(.int (1 : Int32)), (.int kk)])) _
          refine XS.icmpYes X126.here hx rfl (pc0 := 97) (pc' := 106) rfl (hb hby at_97) rfl (tlt hc97_136).1 (by decide) (by decide) ?_
          show Steps p.tables e below (T126.setTop (mkF m 106 #[.val (.long q1), .second, .val (.long q2), .second, .val (.long q3), .second, .val (.int p4), .val (.int p5), .val (.int p6), .val (.int (1 : Int32)), .val (.ref b117), .val (.ref b122), .val (.int vv), .val (.int kk), .val (.int bb), .unset, .unset, .unset] [])) _
          exact k
        refine EndsQ.go (b := T126.setTop (mkF m 108 #[.val (.long q1), .second, .val (.long q2), .second, .val (.long q3), .second, .val (.int p4), .val (.int p5), .val (.int p6), .val (.int (1 : Int32)), .val (.ref b117), .val (.ref b122), .val (.int vv), .val (.int kk), .val (.int bb), .unset, .unset, .unset] [(.int kk)])) (fun t k => ?_) ?_
        · show Steps p.tables e below (T126.setTop (mkF m 106 #[.val (.long q1), .second, .val (.long q2), .second, .val (.long q3), .second, .val (.int p4), .val (.int p5), .val (.int p6), .val (.int (1 : Int32)), .val (.ref b117), .val (.ref b122), .val (.int vv), .val (.int kk), .val (.int bb), .unset, .unset, .unset] [])) _
          refine XS.iload X126.here hx rfl (hb hby at_106) rfl ?_
          show Steps p.tables e below (T126.setTop (mkF m 108 #[.val (.long q1), .second, .val (.long q2), .second, .val (.long q3), .second, .val (.int p4), .val (.int p5), .val (.int p6), .val (.int (1 : Int32)), .val (.ref b117), .val (.ref b122), .val (.int vv), .val (.int kk), .val (.int bb), .unset, .unset, .unset] [(.int kk)])) _
          exact k
        refine EndsQ.go (b := T126.setTop (mkF m 127 #[.val (.long q1), .second, .val (.long q2), .second, .val (.long q3), .second, .val (.int p4), .val (.int p5), .val (.int p6), .val (.int (1 : Int32)), .val (.ref b117), .val (.ref b122), .val (.int vv), .val (.int kk), .val (.int bb), .unset, .unset, .unset] [(.long (if kk = (0 : Int32) then q1 else (if kk = (1 : Int32) then q2 else q3)))])) (fun t k => ?_) ?_
        · by_cases hc108_137 : kk = (0 : Int32)
          · refine XS.ifNo X126.here hx rfl (hb hby at_108) rfl ((if0 _ _).trans (teq hc108_137).2) ?_
            show Steps p.tables e below (T126.setTop (mkF m 111 #[.val (.long q1), .second, .val (.long q2), .second, .val (.long q3), .second, .val (.int p4), .val (.int p5), .val (.int p6), .val (.int (1 : Int32)), .val (.ref b117), .val (.ref b122), .val (.int vv), .val (.int kk), .val (.int bb), .unset, .unset, .unset] [])) _
            refine XS.lloadN X126.here hx rfl (hb hby at_111) rfl ?_
            show Steps p.tables e below (T126.setTop (mkF m 112 #[.val (.long q1), .second, .val (.long q2), .second, .val (.long q3), .second, .val (.int p4), .val (.int p5), .val (.int p6), .val (.int (1 : Int32)), .val (.ref b117), .val (.ref b122), .val (.int vv), .val (.int kk), .val (.int bb), .unset, .unset, .unset] [(.long q1)])) _
            refine XS.goto X126.here hx rfl (pc0 := 112) (pc' := 127) rfl (hb hby at_112) (by decide) (by decide) ?_
            show Steps p.tables e below (T126.setTop (mkF m 127 #[.val (.long q1), .second, .val (.long q2), .second, .val (.long q3), .second, .val (.int p4), .val (.int p5), .val (.int p6), .val (.int (1 : Int32)), .val (.ref b117), .val (.ref b122), .val (.int vv), .val (.int kk), .val (.int bb), .unset, .unset, .unset] [(.long q1)])) _
            have j0 : (if kk = (0 : Int32) then q1 else (if kk = (1 : Int32) then q2 else q3)) = q1 := by rw [if_pos hc108_137]
            rw [j0] at k
            exact k
          · refine XS.ifYes X126.here hx rfl (pc0 := 108) (pc' := 115) rfl (hb hby at_108) rfl ((if0 _ _).trans (feq hc108_137).2) (by decide) (by decide) ?_
            show Steps p.tables e below (T126.setTop (mkF m 115 #[.val (.long q1), .second, .val (.long q2), .second, .val (.long q3), .second, .val (.int p4), .val (.int p5), .val (.int p6), .val (.int (1 : Int32)), .val (.ref b117), .val (.ref b122), .val (.int vv), .val (.int kk), .val (.int bb), .unset, .unset, .unset] [])) _
            refine XS.iload X126.here hx rfl (hb hby at_115) rfl ?_
            show Steps p.tables e below (T126.setTop (mkF m 117 #[.val (.long q1), .second, .val (.long q2), .second, .val (.long q3), .second, .val (.int p4), .val (.int p5), .val (.int p6), .val (.int (1 : Int32)), .val (.ref b117), .val (.ref b122), .val (.int vv), .val (.int kk), .val (.int bb), .unset, .unset, .unset] [(.int kk)])) _
            refine XS.iconst X126.here hx rfl (hb hby at_117) ?_
            show Steps p.tables e below (T126.setTop (mkF m 118 #[.val (.long q1), .second, .val (.long q2), .second, .val (.long q3), .second, .val (.int p4), .val (.int p5), .val (.int p6), .val (.int (1 : Int32)), .val (.ref b117), .val (.ref b122), .val (.int vv), .val (.int kk), .val (.int bb), .unset, .unset, .unset] [(.int (1 : Int32)), (.int kk)])) _
            by_cases hc118_138 : kk = (1 : Int32)
            · refine XS.icmpNo X126.here hx rfl (hb hby at_118) rfl (teq hc118_138).2 ?_
              show Steps p.tables e below (T126.setTop (mkF m 121 #[.val (.long q1), .second, .val (.long q2), .second, .val (.long q3), .second, .val (.int p4), .val (.int p5), .val (.int p6), .val (.int (1 : Int32)), .val (.ref b117), .val (.ref b122), .val (.int vv), .val (.int kk), .val (.int bb), .unset, .unset, .unset] [])) _
              refine XS.lloadN X126.here hx rfl (hb hby at_121) rfl ?_
              show Steps p.tables e below (T126.setTop (mkF m 122 #[.val (.long q1), .second, .val (.long q2), .second, .val (.long q3), .second, .val (.int p4), .val (.int p5), .val (.int p6), .val (.int (1 : Int32)), .val (.ref b117), .val (.ref b122), .val (.int vv), .val (.int kk), .val (.int bb), .unset, .unset, .unset] [(.long q2)])) _
              refine XS.goto X126.here hx rfl (pc0 := 122) (pc' := 127) rfl (hb hby at_122) (by decide) (by decide) ?_
              show Steps p.tables e below (T126.setTop (mkF m 127 #[.val (.long q1), .second, .val (.long q2), .second, .val (.long q3), .second, .val (.int p4), .val (.int p5), .val (.int p6), .val (.int (1 : Int32)), .val (.ref b117), .val (.ref b122), .val (.int vv), .val (.int kk), .val (.int bb), .unset, .unset, .unset] [(.long q2)])) _
              have j0 : (if kk = (0 : Int32) then q1 else (if kk = (1 : Int32) then q2 else q3)) = q2 := by rw [if_neg hc108_137, if_pos hc118_138]
              rw [j0] at k
              exact k
            · refine XS.icmpYes X126.here hx rfl (pc0 := 118) (pc' := 125) rfl (hb hby at_118) rfl (feq hc118_138).2 (by decide) (by decide) ?_
              show Steps p.tables e below (T126.setTop (mkF m 125 #[.val (.long q1), .second, .val (.long q2), .second, .val (.long q3), .second, .val (.int p4), .val (.int p5), .val (.int p6), .val (.int (1 : Int32)), .val (.ref b117), .val (.ref b122), .val (.int vv), .val (.int kk), .val (.int bb), .unset, .unset, .unset] [])) _
              refine XS.lload X126.here hx rfl (hb hby at_125) rfl ?_
              show Steps p.tables e below (T126.setTop (mkF m 127 #[.val (.long q1), .second, .val (.long q2), .second, .val (.long q3), .second, .val (.int p4), .val (.int p5), .val (.int p6), .val (.int (1 : Int32)), .val (.ref b117), .val (.ref b122), .val (.int vv), .val (.int kk), .val (.int bb), .unset, .unset, .unset] [(.long q3)])) _
              have j0 : (if kk = (0 : Int32) then q1 else (if kk = (1 : Int32) then q2 else q3)) = q3 := by rw [if_neg hc108_137, if_neg hc118_138]
              rw [j0] at k
              exact k
        generalize hv_ww : (if kk = (0 : Int32) then q1 else (if kk = (1 : Int32) then q2 else q3)) = ww
        show EndsQ _ _ _ _ _ _ _ (T126.setTop (mkF m 127 #[.val (.long q1), .second, .val (.long q2), .second, .val (.long q3), .second, .val (.int p4), .val (.int p5), .val (.int p6), .val (.int (1 : Int32)), .val (.ref b117), .val (.ref b122), .val (.int vv), .val (.int kk), .val (.int bb), .unset, .unset, .unset] [(.long ww)]))
        refine EndsQ.go (b := T126.setTop (mkF m 138 #[.val (.long q1), .second, .val (.long q2), .second, .val (.long q3), .second, .val (.int p4), .val (.int p5), .val (.int p6), .val (.int (1 : Int32)), .val (.ref b117), .val (.ref b122), .val (.int vv), .val (.int kk), .val (.int bb), .unset, .val (.long ww), .second] [(.int (lcmpW (ww &&& ((1 : Int64) <<< (bb &&& 0x3f).toInt64)) (0 : Int64)))])) (fun t k => ?_) ?_
        · show Steps p.tables e below (T126.setTop (mkF m 127 #[.val (.long q1), .second, .val (.long q2), .second, .val (.long q3), .second, .val (.int p4), .val (.int p5), .val (.int p6), .val (.int (1 : Int32)), .val (.ref b117), .val (.ref b122), .val (.int vv), .val (.int kk), .val (.int bb), .unset, .unset, .unset] [(.long ww)])) _
          refine XS.lstore X126.here hx rfl (hb hby at_127) rfl (l' := #[.val (.long q1), .second, .val (.long q2), .second, .val (.long q3), .second, .val (.int p4), .val (.int p5), .val (.int p6), .val (.int (1 : Int32)), .val (.ref b117), .val (.ref b122), .val (.int vv), .val (.int kk), .val (.int bb), .unset, .val (.long ww), .second]) rfl ?_
          show Steps p.tables e below (T126.setTop (mkF m 129 #[.val (.long q1), .second, .val (.long q2), .second, .val (.long q3), .second, .val (.int p4), .val (.int p5), .val (.int p6), .val (.int (1 : Int32)), .val (.ref b117), .val (.ref b122), .val (.int vv), .val (.int kk), .val (.int bb), .unset, .val (.long ww), .second] [])) _
          refine XS.lload X126.here hx rfl (hb hby at_129) rfl ?_
          show Steps p.tables e below (T126.setTop (mkF m 131 #[.val (.long q1), .second, .val (.long q2), .second, .val (.long q3), .second, .val (.int p4), .val (.int p5), .val (.int p6), .val (.int (1 : Int32)), .val (.ref b117), .val (.ref b122), .val (.int vv), .val (.int kk), .val (.int bb), .unset, .val (.long ww), .second] [(.long ww)])) _
          refine XS.lconst X126.here hx rfl (hb hby at_131) ?_
          show Steps p.tables e below (T126.setTop (mkF m 132 #[.val (.long q1), .second, .val (.long q2), .second, .val (.long q3), .second, .val (.int p4), .val (.int p5), .val (.int p6), .val (.int (1 : Int32)), .val (.ref b117), .val (.ref b122), .val (.int vv), .val (.int kk), .val (.int bb), .unset, .val (.long ww), .second] [(.long (1 : Int64)), (.long ww)])) _
          refine XS.iload X126.here hx rfl (hb hby at_132) rfl ?_
          show Steps p.tables e below (T126.setTop (mkF m 134 #[.val (.long q1), .second, .val (.long q2), .second, .val (.long q3), .second, .val (.int p4), .val (.int p5), .val (.int p6), .val (.int (1 : Int32)), .val (.ref b117), .val (.ref b122), .val (.int vv), .val (.int kk), .val (.int bb), .unset, .val (.long ww), .second] [(.int bb), (.long (1 : Int64)), (.long ww)])) _
          refine XS.lshl X126.here hx rfl (hb hby at_134) rfl ?_
          show Steps p.tables e below (T126.setTop (mkF m 135 #[.val (.long q1), .second, .val (.long q2), .second, .val (.long q3), .second, .val (.int p4), .val (.int p5), .val (.int p6), .val (.int (1 : Int32)), .val (.ref b117), .val (.ref b122), .val (.int vv), .val (.int kk), .val (.int bb), .unset, .val (.long ww), .second] [(.long ((1 : Int64) <<< (bb &&& 0x3f).toInt64)), (.long ww)])) _
          refine XS.land X126.here hx rfl (hb hby at_135) rfl ?_
          show Steps p.tables e below (T126.setTop (mkF m 136 #[.val (.long q1), .second, .val (.long q2), .second, .val (.long q3), .second, .val (.int p4), .val (.int p5), .val (.int p6), .val (.int (1 : Int32)), .val (.ref b117), .val (.ref b122), .val (.int vv), .val (.int kk), .val (.int bb), .unset, .val (.long ww), .second] [(.long (ww &&& ((1 : Int64) <<< (bb &&& 0x3f).toInt64)))])) _
          refine XS.lconst X126.here hx rfl (hb hby at_136) ?_
          show Steps p.tables e below (T126.setTop (mkF m 137 #[.val (.long q1), .second, .val (.long q2), .second, .val (.long q3), .second, .val (.int p4), .val (.int p5), .val (.int p6), .val (.int (1 : Int32)), .val (.ref b117), .val (.ref b122), .val (.int vv), .val (.int kk), .val (.int bb), .unset, .val (.long ww), .second] [(.long (0 : Int64)), (.long (ww &&& ((1 : Int64) <<< (bb &&& 0x3f).toInt64)))])) _
          refine XS.lcmp X126.here hx rfl (hb hby at_137) rfl ?_
          show Steps p.tables e below (T126.setTop (mkF m 138 #[.val (.long q1), .second, .val (.long q2), .second, .val (.long q3), .second, .val (.int p4), .val (.int p5), .val (.int p6), .val (.int (1 : Int32)), .val (.ref b117), .val (.ref b122), .val (.int vv), .val (.int kk), .val (.int bb), .unset, .val (.long ww), .second] [(.int (lcmpW (ww &&& ((1 : Int64) <<< (bb &&& 0x3f).toInt64)) (0 : Int64)))])) _
          exact k
        refine EndsQ.go (b := T126.setTop (mkF m 146 #[.val (.long q1), .second, .val (.long q2), .second, .val (.long q3), .second, .val (.int p4), .val (.int p5), .val (.int p6), .val (.int (1 : Int32)), .val (.ref b117), .val (.ref b122), .val (.int vv), .val (.int kk), .val (.int bb), .unset, .val (.long ww), .second] [(.int (if (ww &&& ((1 : Int64) <<< (bb &&& 0x3f).toInt64)) = (0 : Int64) then (0 : Int32) else (1 : Int32)))])) (fun t k => ?_) ?_
        · by_cases hc138_139 : (ww &&& ((1 : Int64) <<< (bb &&& 0x3f).toInt64)) = (0 : Int64)
          · refine XS.ifYes X126.here hx rfl (pc0 := 138) (pc' := 145) rfl (hb hby at_138) rfl ((if0 _ _).trans (teq ((lw_eq (ww &&& ((1 : Int64) <<< (bb &&& 0x3f).toInt64)) (0 : Int64)).mpr hc138_139)).1) (by decide) (by decide) ?_
            show Steps p.tables e below (T126.setTop (mkF m 145 #[.val (.long q1), .second, .val (.long q2), .second, .val (.long q3), .second, .val (.int p4), .val (.int p5), .val (.int p6), .val (.int (1 : Int32)), .val (.ref b117), .val (.ref b122), .val (.int vv), .val (.int kk), .val (.int bb), .unset, .val (.long ww), .second] [])) _
            refine XS.iconst X126.here hx rfl (hb hby at_145) ?_
            show Steps p.tables e below (T126.setTop (mkF m 146 #[.val (.long q1), .second, .val (.long q2), .second, .val (.long q3), .second, .val (.int p4), .val (.int p5), .val (.int p6), .val (.int (1 : Int32)), .val (.ref b117), .val (.ref b122), .val (.int vv), .val (.int kk), .val (.int bb), .unset, .val (.long ww), .second] [(.int (0 : Int32))])) _
            have j0 : (if (ww &&& ((1 : Int64) <<< (bb &&& 0x3f).toInt64)) = (0 : Int64) then (0 : Int32) else (1 : Int32)) = (0 : Int32) := by rw [if_pos hc138_139]
            rw [j0] at k
            exact k
          · refine XS.ifNo X126.here hx rfl (hb hby at_138) rfl ((if0 _ _).trans (feq (fun q => hc138_139 ((lw_eq (ww &&& ((1 : Int64) <<< (bb &&& 0x3f).toInt64)) (0 : Int64)).mp q))).1) ?_
            show Steps p.tables e below (T126.setTop (mkF m 141 #[.val (.long q1), .second, .val (.long q2), .second, .val (.long q3), .second, .val (.int p4), .val (.int p5), .val (.int p6), .val (.int (1 : Int32)), .val (.ref b117), .val (.ref b122), .val (.int vv), .val (.int kk), .val (.int bb), .unset, .val (.long ww), .second] [])) _
            refine XS.iconst X126.here hx rfl (hb hby at_141) ?_
            show Steps p.tables e below (T126.setTop (mkF m 142 #[.val (.long q1), .second, .val (.long q2), .second, .val (.long q3), .second, .val (.int p4), .val (.int p5), .val (.int p6), .val (.int (1 : Int32)), .val (.ref b117), .val (.ref b122), .val (.int vv), .val (.int kk), .val (.int bb), .unset, .val (.long ww), .second] [(.int (1 : Int32))])) _
            refine XS.goto X126.here hx rfl (pc0 := 142) (pc' := 146) rfl (hb hby at_142) (by decide) (by decide) ?_
            show Steps p.tables e below (T126.setTop (mkF m 146 #[.val (.long q1), .second, .val (.long q2), .second, .val (.long q3), .second, .val (.int p4), .val (.int p5), .val (.int p6), .val (.int (1 : Int32)), .val (.ref b117), .val (.ref b122), .val (.int vv), .val (.int kk), .val (.int bb), .unset, .val (.long ww), .second] [(.int (1 : Int32))])) _
            have j0 : (if (ww &&& ((1 : Int64) <<< (bb &&& 0x3f).toInt64)) = (0 : Int64) then (0 : Int32) else (1 : Int32)) = (1 : Int32) := by rw [if_neg hc138_139]
            rw [j0] at k
            exact k
        generalize hv_ee : (if (ww &&& ((1 : Int64) <<< (bb &&& 0x3f).toInt64)) = (0 : Int64) then (0 : Int32) else (1 : Int32)) = ee
        show EndsQ _ _ _ _ _ _ _ (T126.setTop (mkF m 146 #[.val (.long q1), .second, .val (.long q2), .second, .val (.long q3), .second, .val (.int p4), .val (.int p5), .val (.int p6), .val (.int (1 : Int32)), .val (.ref b117), .val (.ref b122), .val (.int vv), .val (.int kk), .val (.int bb), .unset, .val (.long ww), .second] [(.int ee)]))
        refine EndsQ.go (b := T126.setTop (mkF m 152 #[.val (.long q1), .second, .val (.long q2), .second, .val (.long q3), .second, .val (.int p4), .val (.int p5), .val (.int p6), .val (.int (1 : Int32)), .val (.ref b117), .val (.ref b122), .val (.int vv), .val (.int kk), .val (.int bb), .val (.int ee), .val (.long ww), .second] [(.int vv), (.ref b122)])) (fun t k => ?_) ?_
        · show Steps p.tables e below (T126.setTop (mkF m 146 #[.val (.long q1), .second, .val (.long q2), .second, .val (.long q3), .second, .val (.int p4), .val (.int p5), .val (.int p6), .val (.int (1 : Int32)), .val (.ref b117), .val (.ref b122), .val (.int vv), .val (.int kk), .val (.int bb), .unset, .val (.long ww), .second] [(.int ee)])) _
          refine XS.istore X126.here hx rfl (hb hby at_146) rfl (l' := #[.val (.long q1), .second, .val (.long q2), .second, .val (.long q3), .second, .val (.int p4), .val (.int p5), .val (.int p6), .val (.int (1 : Int32)), .val (.ref b117), .val (.ref b122), .val (.int vv), .val (.int kk), .val (.int bb), .val (.int ee), .val (.long ww), .second]) rfl ?_
          show Steps p.tables e below (T126.setTop (mkF m 148 #[.val (.long q1), .second, .val (.long q2), .second, .val (.long q3), .second, .val (.int p4), .val (.int p5), .val (.int p6), .val (.int (1 : Int32)), .val (.ref b117), .val (.ref b122), .val (.int vv), .val (.int kk), .val (.int bb), .val (.int ee), .val (.long ww), .second] [])) _
          refine XS.aload X126.here hx rfl (hb hby at_148) rfl rfl ?_
          show Steps p.tables e below (T126.setTop (mkF m 150 #[.val (.long q1), .second, .val (.long q2), .second, .val (.long q3), .second, .val (.int p4), .val (.int p5), .val (.int p6), .val (.int (1 : Int32)), .val (.ref b117), .val (.ref b122), .val (.int vv), .val (.int kk), .val (.int bb), .val (.int ee), .val (.long ww), .second] [(.ref b122)])) _
          refine XS.iload X126.here hx rfl (hb hby at_150) rfl ?_
          show Steps p.tables e below (T126.setTop (mkF m 152 #[.val (.long q1), .second, .val (.long q2), .second, .val (.long q3), .second, .val (.int p4), .val (.int p5), .val (.int p6), .val (.int (1 : Int32)), .val (.ref b117), .val (.ref b122), .val (.int vv), .val (.int kk), .val (.int bb), .val (.int ee), .val (.long ww), .second] [(.int vv), (.ref b122)])) _
          exact k
        have hsel : own_w vv < (0 : Int32) → (¬ own_w vv < 0 ∧ own_w vv < (0 : Int32)) ∧ ([] : List Value).getD (own_w vv).toNatClampNeg (.long (0 : Int64)) = .long ww := by
          intro hlt
          rw [hkw.1] at hlt ⊢
          rw [← hv_ww]
          rcases own_c3 kk hkw.2 with q | q | q | q
          · rw [q] at hlt ⊢; exact absurd hlt (by decide)
          · rw [q] at hlt ⊢; exact absurd hlt (by decide)
          · rw [q] at hlt ⊢; exact absurd hlt (by decide)
          · exact absurd hlt (own_gt2 kk (0 : Int32) q (by decide))
        have hz0 : ¬ kk < (0 : Int32) → ww = 0 := by
          intro hlt
          rw [← hv_ww]
          rcases own_c3 kk hkw.2 with q | q | q | q
          · rw [q] at hlt hc97_136 ⊢; exact hz0
          · rw [q] at hlt hc97_136 ⊢; exact absurd hc97_136 (by decide)
          · rw [q] at hlt hc97_136 ⊢; exact absurd hc97_136 (by decide)
          · exact absurd hc97_136 (own_gt2 kk (1 : Int32) q (by decide))
        obtain ⟨cq140, kq140, qa140, qb140, qc140⟩ := isOf hZ rfl Ex126
        obtain ⟨_, _, ⟨T140, L140, kk140, nn140⟩, -, X140, ⟨Lc140, hQ140, l140, y140, z140⟩, st140⟩ := X126.virtualBack hx (y := (⟨"com/example/sextant/sextant/ValueSet", "contains", "(I)Z"⟩ : MethodName)) (z := (⟨"com/example/sextant/sextant/ValueSet", "contains", "(I)Z"⟩ : MethodName)) hown (mvT hZ (hw _ (List.mem_of_getElem? (i := 13) rfl))) (mvT hZ (hw _ (List.mem_of_getElem? (i := 14) rfl))) (notFace_of_selects (args := #[]) (mvT hZ (hw _ (List.mem_of_getElem? (i := 16) rfl)))) (mvT hZ (hw _ (List.mem_of_getElem? (i := 16) rfl))) (mvT hZ (hw _ (List.mem_of_getElem? (i := 15) rfl))) (by decide) (backOf (W := 0) (rm3 l Z a0 hw [] b122 vv c126 kc126 (0 : Int32) [] ww T126.heap n0 f127 Fx126 Vx126 hsel) hZ (hw _ (List.mem_of_getElem? (i := 17) rfl)) (hw _ (List.mem_of_getElem? (i := 3) rfl)) (by decide) (by decide)) qa140 qc140 (g := (mkF m 152 #[.val (.long q1), .second, .val (.long q2), .second, .val (.long q3), .second, .val (.int p4), .val (.int p5), .val (.int p6), .val (.int (1 : Int32)), .val (.ref b117), .val (.ref b122), .val (.int vv), .val (.int kk), .val (.int bb), .val (.int ee), .val (.long ww), .second] [(.int vv), (.ref b122)])) rfl (by rw [hml]; rfl) (Steps.refl _) (argsL := [(.int vv)]) (rest := []) (lenOf pd_3 rfl) rfl (by show 2 * 0 + _ ≤ _; exact Nat.le_of_eq rfl) (hb hby at_152) (fun _ _ => ⟨rfl, rfl, (by decide : 3 + 0 ≤ _), (by decide : 4 + 0 ≤ _)⟩)
        dsimp only [Pt.U, Pt.locs, Pt.cells, Pt.slots] at X140 l140 y140 z140 st140 hQ140
        subst l140 y140 z140
        obtain ⟨rfl, Nq140, eq140⟩ := hQ140
        have N140 := Fr.app N126 Nq140
        refine EndsQ.go (fun t k => st140.trans k) ?_
        show EndsQ _ _ _ _ _ _ _ (T140.setTop (mkF m 155 #[.val (.long q1), .second, .val (.long q2), .second, .val (.long q3), .second, .val (.int p4), .val (.int p5), .val (.int p6), .val (.int (1 : Int32)), .val (.ref b117), .val (.ref b122), .val (.int vv), .val (.int kk), .val (.int bb), .val (.int ee), .val (.long ww), .second] [(.int (own_has vv (0 : Int32) ww))]))
        refine EndsQ.go (b := T140.setTop (mkF m 165 #[.val (.long q1), .second, .val (.long q2), .second, .val (.long q3), .second, .val (.int p4), .val (.int p5), .val (.int p6), .val (.int (1 : Int32)), .val (.ref b117), .val (.ref b122), .val (.int vv), .val (.int kk), .val (.int bb), .val (.int ee), .val (.long ww), .second] [(.int (1 : Int32))])) (fun t k => ?_) ?_
        · show Steps p.tables e below (T140.setTop (mkF m 155 #[.val (.long q1), .second, .val (.long q2), .second, .val (.long q3), .second, .val (.int p4), .val (.int p5), .val (.int p6), .val (.int (1 : Int32)), .val (.ref b117), .val (.ref b122), .val (.int vv), .val (.int kk), .val (.int bb), .val (.int ee), .val (.long ww), .second] [(.int (own_has vv (0 : Int32) ww))])) _
          refine XS.iload X140.here hx rfl (hb hby at_155) rfl ?_
          show Steps p.tables e below (T140.setTop (mkF m 157 #[.val (.long q1), .second, .val (.long q2), .second, .val (.long q3), .second, .val (.int p4), .val (.int p5), .val (.int p6), .val (.int (1 : Int32)), .val (.ref b117), .val (.ref b122), .val (.int vv), .val (.int kk), .val (.int bb), .val (.int ee), .val (.long ww), .second] [(.int ee), (.int (own_has vv (0 : Int32) ww))])) _
          refine XS.icmpNo X140.here hx rfl (hb hby at_157) rfl (teq ((own_hasB vv (0 : Int32) kk bb ww hb_v hkw.1 hv_bb hz0).trans hv_ee)).2 ?_
          show Steps p.tables e below (T140.setTop (mkF m 160 #[.val (.long q1), .second, .val (.long q2), .second, .val (.long q3), .second, .val (.int p4), .val (.int p5), .val (.int p6), .val (.int (1 : Int32)), .val (.ref b117), .val (.ref b122), .val (.int vv), .val (.int kk), .val (.int bb), .val (.int ee), .val (.long ww), .second] [])) _
          refine XS.iconst X140.here hx rfl (hb hby at_160) ?_
          show Steps p.tables e below (T140.setTop (mkF m 161 #[.val (.long q1), .second, .val (.long q2), .second, .val (.long q3), .second, .val (.int p4), .val (.int p5), .val (.int p6), .val (.int (1 : Int32)), .val (.ref b117), .val (.ref b122), .val (.int vv), .val (.int kk), .val (.int bb), .val (.int ee), .val (.long ww), .second] [(.int (1 : Int32))])) _
          refine XS.goto X140.here hx rfl (pc0 := 161) (pc' := 165) rfl (hb hby at_161) (by decide) (by decide) ?_
          show Steps p.tables e below (T140.setTop (mkF m 165 #[.val (.long q1), .second, .val (.long q2), .second, .val (.long q3), .second, .val (.int p4), .val (.int p5), .val (.int p6), .val (.int (1 : Int32)), .val (.ref b117), .val (.ref b122), .val (.int vv), .val (.int kk), .val (.int bb), .val (.int ee), .val (.long ww), .second] [(.int (1 : Int32))])) _
          exact k
        refine EndsQ.retN X140 hx Bd.notSynchronized (t := .boolean) Bd.returns (by simp) (hb hby at_165) (by decide) (by decide) ?_
        show Q0 Z q1 q2 q3 p4 p5 p6 h0 n0 (some (.int (nar .boolean (1 : Int32)))) T140.heap _
        rw [eq140]
        exact ⟨rfl, N140⟩
      · refine EndsQ.go (b := T126.setTop (mkF m 100 #[.val (.long q1), .second, .val (.long q2), .second, .val (.long q3), .second, .val (.int p4), .val (.int p5), .val (.int p6), .val (.int (1 : Int32)), .val (.ref b117), .val (.ref b122), .val (.int vv), .val (.int kk), .val (.int bb), .unset, .unset, .unset] [])) (fun t k => ?_) ?_
        · show Steps p.tables e below (T126.setTop (mkF m 97 #[.val (.long q1), .second, .val (.long q2), .second, .val (.long q3), .second, .val (.int p4), .val (.int p5), .val (.int p6), .val (.int (1 : Int32)), .val (.ref b117), .val (.ref b122), .val (.int vv), .val (.int kk), .val (.int bb), .unset, .unset, .unset] [(.int (1 : Int32)), (.int kk)])) _
          refine XS.icmpNo X126.here hx rfl (hb hby at_97) rfl (flt hc97_136).1 ?_
          show Steps p.tables e below (T126.setTop (mkF m 100 #[.val (.long q1), .second, .val (.long q2), .second, .val (.long q3), .second, .val (.int p4), .val (.int p5), .val (.int p6), .val (.int (1 : Int32)), .val (.ref b117), .val (.ref b122), .val (.int vv), .val (.int kk), .val (.int bb), .unset, .unset, .unset] [])) _
          exact k
        refine EndsQ.go (b := T126.setTop (mkF m 152 #[.val (.long q1), .second, .val (.long q2), .second, .val (.long q3), .second, .val (.int p4), .val (.int p5), .val (.int p6), .val (.int (1 : Int32)), .val (.ref b117), .val (.ref b122), .val (.int vv), .val (.int kk), .val (.int bb), .val (.int (0 : Int32)), .unset, .unset] [(.int vv), (.ref b122)])) (fun t k => ?_) ?_
        · show Steps p.tables e below (T126.setTop (mkF m 100 #[.val (.long q1), .second, .val (.long q2), .second, .val (.long q3), .second, .val (.int p4), .val (.int p5), .val (.int p6), .val (.int (1 : Int32)), .val (.ref b117), .val (.ref b122), .val (.int vv), .val (.int kk), .val (.int bb), .unset, .unset, .unset] [])) _
          refine XS.iconst X126.here hx rfl (hb hby at_100) ?_
          show Steps p.tables e below (T126.setTop (mkF m 101 #[.val (.long q1), .second, .val (.long q2), .second, .val (.long q3), .second, .val (.int p4), .val (.int p5), .val (.int p6), .val (.int (1 : Int32)), .val (.ref b117), .val (.ref b122), .val (.int vv), .val (.int kk), .val (.int bb), .unset, .unset, .unset] [(.int (0 : Int32))])) _
          refine XS.istore X126.here hx rfl (hb hby at_101) rfl (l' := #[.val (.long q1), .second, .val (.long q2), .second, .val (.long q3), .second, .val (.int p4), .val (.int p5), .val (.int p6), .val (.int (1 : Int32)), .val (.ref b117), .val (.ref b122), .val (.int vv), .val (.int kk), .val (.int bb), .val (.int (0 : Int32)), .unset, .unset]) rfl ?_
          show Steps p.tables e below (T126.setTop (mkF m 103 #[.val (.long q1), .second, .val (.long q2), .second, .val (.long q3), .second, .val (.int p4), .val (.int p5), .val (.int p6), .val (.int (1 : Int32)), .val (.ref b117), .val (.ref b122), .val (.int vv), .val (.int kk), .val (.int bb), .val (.int (0 : Int32)), .unset, .unset] [])) _
          refine XS.goto X126.here hx rfl (pc0 := 103) (pc' := 148) rfl (hb hby at_103) (by decide) (by decide) ?_
          show Steps p.tables e below (T126.setTop (mkF m 148 #[.val (.long q1), .second, .val (.long q2), .second, .val (.long q3), .second, .val (.int p4), .val (.int p5), .val (.int p6), .val (.int (1 : Int32)), .val (.ref b117), .val (.ref b122), .val (.int vv), .val (.int kk), .val (.int bb), .val (.int (0 : Int32)), .unset, .unset] [])) _
          refine XS.aload X126.here hx rfl (hb hby at_148) rfl rfl ?_
          show Steps p.tables e below (T126.setTop (mkF m 150 #[.val (.long q1), .second, .val (.long q2), .second, .val (.long q3), .second, .val (.int p4), .val (.int p5), .val (.int p6), .val (.int (1 : Int32)), .val (.ref b117), .val (.ref b122), .val (.int vv), .val (.int kk), .val (.int bb), .val (.int (0 : Int32)), .unset, .unset] [(.ref b122)])) _
          refine XS.iload X126.here hx rfl (hb hby at_150) rfl ?_
          show Steps p.tables e below (T126.setTop (mkF m 152 #[.val (.long q1), .second, .val (.long q2), .second, .val (.long q3), .second, .val (.int p4), .val (.int p5), .val (.int p6), .val (.int (1 : Int32)), .val (.ref b117), .val (.ref b122), .val (.int vv), .val (.int kk), .val (.int bb), .val (.int (0 : Int32)), .unset, .unset] [(.int vv), (.ref b122)])) _
          exact k
        obtain ⟨cq141, kq141, qa141, qb141, qc141⟩ := isOf hZ rfl Ex126
        obtain ⟨_, _, ⟨T141, L141, kk141, nn141⟩, -, X141, ⟨Lc141, hQ141, l141, y141, z141⟩, st141⟩ := X126.virtualBack hx (y := (⟨"com/example/sextant/sextant/ValueSet", "contains", "(I)Z"⟩ : MethodName)) (z := (⟨"com/example/sextant/sextant/ValueSet", "contains", "(I)Z"⟩ : MethodName)) hown (mvT hZ (hw _ (List.mem_of_getElem? (i := 13) rfl))) (mvT hZ (hw _ (List.mem_of_getElem? (i := 14) rfl))) (notFace_of_selects (args := #[]) (mvT hZ (hw _ (List.mem_of_getElem? (i := 16) rfl)))) (mvT hZ (hw _ (List.mem_of_getElem? (i := 16) rfl))) (mvT hZ (hw _ (List.mem_of_getElem? (i := 15) rfl))) (by decide) (backOf (W := 0) (rm3 l Z a0 hw [] b122 vv c126 kc126 (0 : Int32) [] (0 : Int64) T126.heap n0 f127 Fx126 Vx126 (fun hlt => absurd hlt (by rw [hkw.1]; exact own_mono kk (1 : Int32) (0 : Int32) hc97_136 (by decide)))) hZ (hw _ (List.mem_of_getElem? (i := 17) rfl)) (hw _ (List.mem_of_getElem? (i := 3) rfl)) (by decide) (by decide)) qa141 qc141 (g := (mkF m 152 #[.val (.long q1), .second, .val (.long q2), .second, .val (.long q3), .second, .val (.int p4), .val (.int p5), .val (.int p6), .val (.int (1 : Int32)), .val (.ref b117), .val (.ref b122), .val (.int vv), .val (.int kk), .val (.int bb), .val (.int (0 : Int32)), .unset, .unset] [(.int vv), (.ref b122)])) rfl (by rw [hml]; rfl) (Steps.refl _) (argsL := [(.int vv)]) (rest := []) (lenOf pd_3 rfl) rfl (by show 2 * 0 + _ ≤ _; exact Nat.le_of_eq rfl) (hb hby at_152) (fun _ _ => ⟨rfl, rfl, (by decide : 3 + 0 ≤ _), (by decide : 4 + 0 ≤ _)⟩)
        dsimp only [Pt.U, Pt.locs, Pt.cells, Pt.slots] at X141 l141 y141 z141 st141 hQ141
        subst l141 y141 z141
        obtain ⟨rfl, Nq141, eq141⟩ := hQ141
        have N141 := Fr.app N126 Nq141
        refine EndsQ.go (fun t k => st141.trans k) ?_
        show EndsQ _ _ _ _ _ _ _ (T141.setTop (mkF m 155 #[.val (.long q1), .second, .val (.long q2), .second, .val (.long q3), .second, .val (.int p4), .val (.int p5), .val (.int p6), .val (.int (1 : Int32)), .val (.ref b117), .val (.ref b122), .val (.int vv), .val (.int kk), .val (.int bb), .val (.int (0 : Int32)), .unset, .unset] [(.int (own_has vv (0 : Int32) (0 : Int64)))]))
        refine EndsQ.go (b := T141.setTop (mkF m 165 #[.val (.long q1), .second, .val (.long q2), .second, .val (.long q3), .second, .val (.int p4), .val (.int p5), .val (.int p6), .val (.int (1 : Int32)), .val (.ref b117), .val (.ref b122), .val (.int vv), .val (.int kk), .val (.int bb), .val (.int (0 : Int32)), .unset, .unset] [(.int (1 : Int32))])) (fun t k => ?_) ?_
        · show Steps p.tables e below (T141.setTop (mkF m 155 #[.val (.long q1), .second, .val (.long q2), .second, .val (.long q3), .second, .val (.int p4), .val (.int p5), .val (.int p6), .val (.int (1 : Int32)), .val (.ref b117), .val (.ref b122), .val (.int vv), .val (.int kk), .val (.int bb), .val (.int (0 : Int32)), .unset, .unset] [(.int (own_has vv (0 : Int32) (0 : Int64)))])) _
          refine XS.iload X141.here hx rfl (hb hby at_155) rfl ?_
          show Steps p.tables e below (T141.setTop (mkF m 157 #[.val (.long q1), .second, .val (.long q2), .second, .val (.long q3), .second, .val (.int p4), .val (.int p5), .val (.int p6), .val (.int (1 : Int32)), .val (.ref b117), .val (.ref b122), .val (.int vv), .val (.int kk), .val (.int bb), .val (.int (0 : Int32)), .unset, .unset] [(.int (0 : Int32)), (.int (own_has vv (0 : Int32) (0 : Int64)))])) _
          refine XS.icmpNo X141.here hx rfl (hb hby at_157) rfl (teq (own_hasA vv (0 : Int32) kk (0 : Int64) hkw.1 (own_mono kk (1 : Int32) (0 : Int32) hc97_136 (by decide)))).2 ?_
          show Steps p.tables e below (T141.setTop (mkF m 160 #[.val (.long q1), .second, .val (.long q2), .second, .val (.long q3), .second, .val (.int p4), .val (.int p5), .val (.int p6), .val (.int (1 : Int32)), .val (.ref b117), .val (.ref b122), .val (.int vv), .val (.int kk), .val (.int bb), .val (.int (0 : Int32)), .unset, .unset] [])) _
          refine XS.iconst X141.here hx rfl (hb hby at_160) ?_
          show Steps p.tables e below (T141.setTop (mkF m 161 #[.val (.long q1), .second, .val (.long q2), .second, .val (.long q3), .second, .val (.int p4), .val (.int p5), .val (.int p6), .val (.int (1 : Int32)), .val (.ref b117), .val (.ref b122), .val (.int vv), .val (.int kk), .val (.int bb), .val (.int (0 : Int32)), .unset, .unset] [(.int (1 : Int32))])) _
          refine XS.goto X141.here hx rfl (pc0 := 161) (pc' := 165) rfl (hb hby at_161) (by decide) (by decide) ?_
          show Steps p.tables e below (T141.setTop (mkF m 165 #[.val (.long q1), .second, .val (.long q2), .second, .val (.long q3), .second, .val (.int p4), .val (.int p5), .val (.int p6), .val (.int (1 : Int32)), .val (.ref b117), .val (.ref b122), .val (.int vv), .val (.int kk), .val (.int bb), .val (.int (0 : Int32)), .unset, .unset] [(.int (1 : Int32))])) _
          exact k
        refine EndsQ.retN X141 hx Bd.notSynchronized (t := .boolean) Bd.returns (by simp) (hb hby at_165) (by decide) (by decide) ?_
        show Q0 Z q1 q2 q3 p4 p5 p6 h0 n0 (some (.int (nar .boolean (1 : Int32)))) T141.heap _
        rw [eq141]
        exact ⟨rfl, N141⟩
  · subst hk2
    show EndsQ _ _ _ _ _ _ _ (s₁.setTop (mkF m 6 #[.val (.long q1), .second, .val (.long q2), .second, .val (.long q3), .second, .val (.int p4), .val (.int p5), .val (.int p6), .val (.int (2 : Int32)), .unset, .unset, .unset, .unset, .unset, .unset, .unset, .unset] []))
    refine EndsQ.go (b := s₁.setTop (mkF m 8 #[.val (.long q1), .second, .val (.long q2), .second, .val (.long q3), .second, .val (.int p4), .val (.int p5), .val (.int p6), .val (.int (2 : Int32)), .unset, .unset, .unset, .unset, .unset, .unset, .unset, .unset] [(.int (2 : Int32))])) (fun t k => ?_) ?_
    · show Steps p.tables e below (s₁.setTop (mkF m 6 #[.val (.long q1), .second, .val (.long q2), .second, .val (.long q3), .second, .val (.int p4), .val (.int p5), .val (.int p6), .val (.int (2 : Int32)), .unset, .unset, .unset, .unset, .unset, .unset, .unset, .unset] [])) _
      refine XS.iload X0.here hx rfl (hb hby at_6) rfl ?_
      show Steps p.tables e below (s₁.setTop (mkF m 8 #[.val (.long q1), .second, .val (.long q2), .second, .val (.long q3), .second, .val (.int p4), .val (.int p5), .val (.int p6), .val (.int (2 : Int32)), .unset, .unset, .unset, .unset, .unset, .unset, .unset, .unset] [(.int (2 : Int32))])) _
      exact k
    obtain ⟨T142, h142, k142, X142, e142, E142, A142, st142⟩ := newP X0 hx hZ (hw _ (List.mem_of_getElem? (i := 0) rfl)) e0 (g := (mkF m 8 #[.val (.long q1), .second, .val (.long q2), .second, .val (.long q3), .second, .val (.int p4), .val (.int p5), .val (.int p6), .val (.int (2 : Int32)), .unset, .unset, .unset, .unset, .unset, .unset, .unset, .unset] [(.int (2 : Int32))])) rfl (hb hby at_8) rfl (by decide) (cap := 2) (by decide) (by decide) (by decide) (by decide)
    obtain ⟨b142, g142⟩ : ∃ z, z = h0.size := ⟨_, rfl⟩
    rw [← g142] at A142 st142
    have gn142 : n0 ≤ b142 := Nat.le_trans Z0 (Nat.le_of_eq g142.symm)
    have f143 : n0 ≤ h142.size := Nat.le_trans Z0 E142.1
    have f144 : Arv Z h142 b142 k142 .long (2 : Int32) [(.long (0 : Int64)), (.long (0 : Int64))] (.long (0 : Int64)) := (Arv.new A142 (by decide)).pad (pad_rep [] (.long (0 : Int64)) 2)
    refine EndsQ.go st142 ?_
    show EndsQ _ _ _ _ _ _ _ (T142.setTop (mkF m 10 #[.val (.long q1), .second, .val (.long q2), .second, .val (.long q3), .second, .val (.int p4), .val (.int p5), .val (.int p6), .val (.int (2 : Int32)), .unset, .unset, .unset, .unset, .unset, .unset, .unset, .unset] [(.ref b142)]))
    refine EndsQ.go (b := T142.setTop (mkF m 21 #[.val (.long q1), .second, .val (.long q2), .second, .val (.long q3), .second, .val (.int p4), .val (.int p5), .val (.int p6), .val (.int (2 : Int32)), .val (.ref b142), .unset, .unset, .unset, .unset, .unset, .unset, .unset] [(.long q1), (.int (0 : Int32)), (.ref b142)])) (fun t k => ?_) ?_
    · show Steps p.tables e below (T142.setTop (mkF m 10 #[.val (.long q1), .second, .val (.long q2), .second, .val (.long q3), .second, .val (.int p4), .val (.int p5), .val (.int p6), .val (.int (2 : Int32)), .unset, .unset, .unset, .unset, .unset, .unset, .unset, .unset] [(.ref b142)])) _
      refine XS.astore X142.here hx rfl (hb hby at_10) rfl rfl (l' := #[.val (.long q1), .second, .val (.long q2), .second, .val (.long q3), .second, .val (.int p4), .val (.int p5), .val (.int p6), .val (.int (2 : Int32)), .val (.ref b142), .unset, .unset, .unset, .unset, .unset, .unset, .unset]) rfl ?_
      show Steps p.tables e below (T142.setTop (mkF m 12 #[.val (.long q1), .second, .val (.long q2), .second, .val (.long q3), .second, .val (.int p4), .val (.int p5), .val (.int p6), .val (.int (2 : Int32)), .val (.ref b142), .unset, .unset, .unset, .unset, .unset, .unset, .unset] [])) _
      refine XS.iload X142.here hx rfl (hb hby at_12) rfl ?_
      show Steps p.tables e below (T142.setTop (mkF m 14 #[.val (.long q1), .second, .val (.long q2), .second, .val (.long q3), .second, .val (.int p4), .val (.int p5), .val (.int p6), .val (.int (2 : Int32)), .val (.ref b142), .unset, .unset, .unset, .unset, .unset, .unset, .unset] [(.int (2 : Int32))])) _
      refine XS.ifNo X142.here hx rfl (hb hby at_14) rfl ((if0 _ _).trans (tlt (by decide)).2.2.2) ?_
      show Steps p.tables e below (T142.setTop (mkF m 17 #[.val (.long q1), .second, .val (.long q2), .second, .val (.long q3), .second, .val (.int p4), .val (.int p5), .val (.int p6), .val (.int (2 : Int32)), .val (.ref b142), .unset, .unset, .unset, .unset, .unset, .unset, .unset] [])) _
      refine XS.aload X142.here hx rfl (hb hby at_17) rfl rfl ?_
      show Steps p.tables e below (T142.setTop (mkF m 19 #[.val (.long q1), .second, .val (.long q2), .second, .val (.long q3), .second, .val (.int p4), .val (.int p5), .val (.int p6), .val (.int (2 : Int32)), .val (.ref b142), .unset, .unset, .unset, .unset, .unset, .unset, .unset] [(.ref b142)])) _
      refine XS.iconst X142.here hx rfl (hb hby at_19) ?_
      show Steps p.tables e below (T142.setTop (mkF m 20 #[.val (.long q1), .second, .val (.long q2), .second, .val (.long q3), .second, .val (.int p4), .val (.int p5), .val (.int p6), .val (.int (2 : Int32)), .val (.ref b142), .unset, .unset, .unset, .unset, .unset, .unset, .unset] [(.int (0 : Int32)), (.ref b142)])) _
      refine XS.lloadN X142.here hx rfl (hb hby at_20) rfl ?_
      show Steps p.tables e below (T142.setTop (mkF m 21 #[.val (.long q1), .second, .val (.long q2), .second, .val (.long q3), .second, .val (.int p4), .val (.int p5), .val (.int p6), .val (.int (2 : Int32)), .val (.ref b142), .unset, .unset, .unset, .unset, .unset, .unset, .unset] [(.long q1), (.int (0 : Int32)), (.ref b142)])) _
      exact k
    obtain ⟨cl145, Ar145, q145, S145, M145, H145, G145⟩ := id f144
    have hin145 : ¬ ((0 : Int32) < 0 ∨ cl145.slots.size ≤ ((0 : Int32)).toNatClampNeg) := inb_of S145 ⟨by decide, by decide⟩
    obtain ⟨T145, h145, X145, e145, W145, st145⟩ := stJ X142 hx hZ e142 Ar145 (j := (0 : Int32)) hin145 (g := (mkF m 21 #[.val (.long q1), .second, .val (.long q2), .second, .val (.long q3), .second, .val (.int p4), .val (.int p5), .val (.int p6), .val (.int (2 : Int32)), .val (.ref b142), .unset, .unset, .unset, .unset, .unset, .unset, .unset] [(.long q1), (.int (0 : Int32)), (.ref b142)])) rfl rfl (hb hby at_21)
    have fa145 : Arv Z h145 b142 k142 .long (2 : Int32) [(.long q1), (.long (0 : Int64))] (.long (0 : Int64)) := Arv.set Ar145 q145 S145 M145 H145 G145 rfl W145 0 rfl (Nat.le_of_ble_eq_true rfl)
    have f146 : n0 ≤ h145.size := Nat.le_trans f143 (Keep.of_wr W145).1
    have N145 := Fr.snoc X145 N0 gn142
    refine EndsQ.go st145 ?_
    show EndsQ _ _ _ _ _ _ _ (T145.setTop (mkF m 22 #[.val (.long q1), .second, .val (.long q2), .second, .val (.long q3), .second, .val (.int p4), .val (.int p5), .val (.int p6), .val (.int (2 : Int32)), .val (.ref b142), .unset, .unset, .unset, .unset, .unset, .unset, .unset] []))
    refine EndsQ.go (b := T145.setTop (mkF m 32 #[.val (.long q1), .second, .val (.long q2), .second, .val (.long q3), .second, .val (.int p4), .val (.int p5), .val (.int p6), .val (.int (2 : Int32)), .val (.ref b142), .unset, .unset, .unset, .unset, .unset, .unset, .unset] [(.long q2), (.int (1 : Int32)), (.ref b142)])) (fun t k => ?_) ?_
    · show Steps p.tables e below (T145.setTop (mkF m 22 #[.val (.long q1), .second, .val (.long q2), .second, .val (.long q3), .second, .val (.int p4), .val (.int p5), .val (.int p6), .val (.int (2 : Int32)), .val (.ref b142), .unset, .unset, .unset, .unset, .unset, .unset, .unset] [])) _
      refine XS.iload X145.here hx rfl (hb hby at_22) rfl ?_
      show Steps p.tables e below (T145.setTop (mkF m 24 #[.val (.long q1), .second, .val (.long q2), .second, .val (.long q3), .second, .val (.int p4), .val (.int p5), .val (.int p6), .val (.int (2 : Int32)), .val (.ref b142), .unset, .unset, .unset, .unset, .unset, .unset, .unset] [(.int (2 : Int32))])) _
      refine XS.iconst X145.here hx rfl (hb hby at_24) ?_
      show Steps p.tables e below (T145.setTop (mkF m 25 #[.val (.long q1), .second, .val (.long q2), .second, .val (.long q3), .second, .val (.int p4), .val (.int p5), .val (.int p6), .val (.int (2 : Int32)), .val (.ref b142), .unset, .unset, .unset, .unset, .unset, .unset, .unset] [(.int (1 : Int32)), (.int (2 : Int32))])) _
      refine XS.icmpNo X145.here hx rfl (hb hby at_25) rfl (tlt (by decide)).2.2.2 ?_
      show Steps p.tables e below (T145.setTop (mkF m 28 #[.val (.long q1), .second, .val (.long q2), .second, .val (.long q3), .second, .val (.int p4), .val (.int p5), .val (.int p6), .val (.int (2 : Int32)), .val (.ref b142), .unset, .unset, .unset, .unset, .unset, .unset, .unset] [])) _
      refine XS.aload X145.here hx rfl (hb hby at_28) rfl rfl ?_
      show Steps p.tables e below (T145.setTop (mkF m 30 #[.val (.long q1), .second, .val (.long q2), .second, .val (.long q3), .second, .val (.int p4), .val (.int p5), .val (.int p6), .val (.int (2 : Int32)), .val (.ref b142), .unset, .unset, .unset, .unset, .unset, .unset, .unset] [(.ref b142)])) _
      refine XS.iconst X145.here hx rfl (hb hby at_30) ?_
      show Steps p.tables e below (T145.setTop (mkF m 31 #[.val (.long q1), .second, .val (.long q2), .second, .val (.long q3), .second, .val (.int p4), .val (.int p5), .val (.int p6), .val (.int (2 : Int32)), .val (.ref b142), .unset, .unset, .unset, .unset, .unset, .unset, .unset] [(.int (1 : Int32)), (.ref b142)])) _
      refine XS.lloadN X145.here hx rfl (hb hby at_31) rfl ?_
      show Steps p.tables e below (T145.setTop (mkF m 32 #[.val (.long q1), .second, .val (.long q2), .second, .val (.long q3), .second, .val (.int p4), .val (.int p5), .val (.int p6), .val (.int (2 : Int32)), .val (.ref b142), .unset, .unset, .unset, .unset, .unset, .unset, .unset] [(.long q2), (.int (1 : Int32)), (.ref b142)])) _
      exact k
    obtain ⟨cl147, Ar147, q147, S147, M147, H147, G147⟩ := id fa145
    have hin147 : ¬ ((1 : Int32) < 0 ∨ cl147.slots.size ≤ ((1 : Int32)).toNatClampNeg) := inb_of S147 ⟨by decide, by decide⟩
    obtain ⟨T147, h147, X147, e147, W147, st147⟩ := stJ X145 hx hZ e145 Ar147 (j := (1 : Int32)) hin147 (g := (mkF m 32 #[.val (.long q1), .second, .val (.long q2), .second, .val (.long q3), .second, .val (.int p4), .val (.int p5), .val (.int p6), .val (.int (2 : Int32)), .val (.ref b142), .unset, .unset, .unset, .unset, .unset, .unset, .unset] [(.long q2), (.int (1 : Int32)), (.ref b142)])) rfl rfl (hb hby at_32)
    have fa147 : Arv Z h147 b142 k142 .long (2 : Int32) [(.long q1), (.long q2)] (.long (0 : Int64)) := Arv.set Ar147 q147 S147 M147 H147 G147 rfl W147 1 rfl (Nat.le_of_ble_eq_true rfl)
    have f148 : n0 ≤ h147.size := Nat.le_trans f146 (Keep.of_wr W147).1
    have N147 := Fr.snoc X147 N145 gn142
    refine EndsQ.go st147 ?_
    show EndsQ _ _ _ _ _ _ _ (T147.setTop (mkF m 33 #[.val (.long q1), .second, .val (.long q2), .second, .val (.long q3), .second, .val (.int p4), .val (.int p5), .val (.int p6), .val (.int (2 : Int32)), .val (.ref b142), .unset, .unset, .unset, .unset, .unset, .unset, .unset] []))
    refine EndsQ.go (b := T147.setTop (mkF m 45 #[.val (.long q1), .second, .val (.long q2), .second, .val (.long q3), .second, .val (.int p4), .val (.int p5), .val (.int p6), .val (.int (2 : Int32)), .val (.ref b142), .unset, .unset, .unset, .unset, .unset, .unset, .unset] [])) (fun t k => ?_) ?_
    · show Steps p.tables e below (T147.setTop (mkF m 33 #[.val (.long q1), .second, .val (.long q2), .second, .val (.long q3), .second, .val (.int p4), .val (.int p5), .val (.int p6), .val (.int (2 : Int32)), .val (.ref b142), .unset, .unset, .unset, .unset, .unset, .unset, .unset] [])) _
      refine XS.iload X147.here hx rfl (hb hby at_33) rfl ?_
      show Steps p.tables e below (T147.setTop (mkF m 35 #[.val (.long q1), .second, .val (.long q2), .second, .val (.long q3), .second, .val (.int p4), .val (.int p5), .val (.int p6), .val (.int (2 : Int32)), .val (.ref b142), .unset, .unset, .unset, .unset, .unset, .unset, .unset] [(.int (2 : Int32))])) _
      refine XS.iconst X147.here hx rfl (hb hby at_35) ?_
      show Steps p.tables e below (T147.setTop (mkF m 36 #[.val (.long q1), .second, .val (.long q2), .second, .val (.long q3), .second, .val (.int p4), .val (.int p5), .val (.int p6), .val (.int (2 : Int32)), .val (.ref b142), .unset, .unset, .unset, .unset, .unset, .unset, .unset] [(.int (2 : Int32)), (.int (2 : Int32))])) _
      refine XS.icmpYes X147.here hx rfl (pc0 := 36) (pc' := 45) rfl (hb hby at_36) rfl (flt (by decide)).2.2.2 (by decide) (by decide) ?_
      show Steps p.tables e below (T147.setTop (mkF m 45 #[.val (.long q1), .second, .val (.long q2), .second, .val (.long q3), .second, .val (.int p4), .val (.int p5), .val (.int p6), .val (.int (2 : Int32)), .val (.ref b142), .unset, .unset, .unset, .unset, .unset, .unset, .unset] [])) _
      exact k
    obtain ⟨T149, h149, X149, e149, E149, A149, D149, -, st149⟩ := newO X147 hx hZ hown (hw _ (List.mem_of_getElem? (i := 1) rfl)) (hw _ (List.mem_of_getElem? (i := 2) rfl)) (hw _ (List.mem_of_getElem? (i := 3) rfl)) e147 (g := (mkF m 45 #[.val (.long q1), .second, .val (.long q2), .second, .val (.long q3), .second, .val (.int p4), .val (.int p5), .val (.int p6), .val (.int (2 : Int32)), .val (.ref b142), .unset, .unset, .unset, .unset, .unset, .unset, .unset] [])) rfl (hb hby at_45) (by decide) (by decide)
    obtain ⟨b149, g149⟩ : ∃ z, z = h147.size := ⟨_, rfl⟩
    rw [← g149] at A149 D149 st149
    have gn149 : n0 ≤ b149 := Nat.le_trans f148 (Nat.le_of_eq g149.symm)
    have ne149_b142 : b142 ≠ b149 := Nat.ne_of_lt (Nat.lt_of_lt_of_le fa147.lt (Nat.le_of_eq g149.symm))
    have f150 : n0 ≤ h149.size := Nat.le_trans f148 E149.1
    have f151 : Arv Z h149 b142 k142 .long (2 : Int32) [(.long q1), (.long q2)] (.long (0 : Int64)) := fa147.ext E149
    have f152 : Fld Z h149 b149 "com/example/sextant/sextant/ValueSet" "words" "[J" .null := D149 (Or.inr (hw _ (List.mem_of_getElem? (i := 11) rfl))) (ty := (.array .long)) (by decide)
    refine EndsQ.go st149 ?_
    show EndsQ _ _ _ _ _ _ _ (T149.setTop (mkF m 48 #[.val (.long q1), .second, .val (.long q2), .second, .val (.long q3), .second, .val (.int p4), .val (.int p5), .val (.int p6), .val (.int (2 : Int32)), .val (.ref b142), .unset, .unset, .unset, .unset, .unset, .unset, .unset] [(.ref b149)]))
    refine EndsQ.go (b := T149.setTop (mkF m 51 #[.val (.long q1), .second, .val (.long q2), .second, .val (.long q3), .second, .val (.int p4), .val (.int p5), .val (.int p6), .val (.int (2 : Int32)), .val (.ref b142), .unset, .unset, .unset, .unset, .unset, .unset, .unset] [(.ref b142), (.ref b149), (.ref b149)])) (fun t k => ?_) ?_
    · show Steps p.tables e below (T149.setTop (mkF m 48 #[.val (.long q1), .second, .val (.long q2), .second, .val (.long q3), .second, .val (.int p4), .val (.int p5), .val (.int p6), .val (.int (2 : Int32)), .val (.ref b142), .unset, .unset, .unset, .unset, .unset, .unset, .unset] [(.ref b149)])) _
      refine XS.dup X149.here hx rfl (hb hby at_48) rfl rfl ?_
      show Steps p.tables e below (T149.setTop (mkF m 49 #[.val (.long q1), .second, .val (.long q2), .second, .val (.long q3), .second, .val (.int p4), .val (.int p5), .val (.int p6), .val (.int (2 : Int32)), .val (.ref b142), .unset, .unset, .unset, .unset, .unset, .unset, .unset] [(.ref b149), (.ref b149)])) _
      refine XS.aload X149.here hx rfl (hb hby at_49) rfl rfl ?_
      show Steps p.tables e below (T149.setTop (mkF m 51 #[.val (.long q1), .second, .val (.long q2), .second, .val (.long q3), .second, .val (.int p4), .val (.int p5), .val (.int p6), .val (.int (2 : Int32)), .val (.ref b142), .unset, .unset, .unset, .unset, .unset, .unset, .unset] [(.ref b142), (.ref b149), (.ref b149)])) _
      exact k
    obtain ⟨_, _, ⟨T153, L153, kk153, nn153⟩, -, X153, ⟨Lc153, hQ153, l153, y153, z153⟩, st153⟩ := X149.specialBack hx (y := (⟨"com/example/sextant/sextant/ValueSet", "<init>", "([J)V"⟩ : MethodName)) rfl hown (mvT hZ (hw _ (List.mem_of_getElem? (i := 4) rfl))) (mvT hZ (hw _ (List.mem_of_getElem? (i := 5) rfl))) (mvT hZ (hw _ (List.mem_of_getElem? (i := 6) rfl))) (by decide) (backOf (W := 1) (rmI2 l Z a0 hw [] b149 b142 k142 q1 q2 h149 n0 f150 f152 A149 gn149 f151 (Ne.symm ne149_b142)) hZ (hw _ (List.mem_of_getElem? (i := 6) rfl)) (hw _ (List.mem_of_getElem? (i := 3) rfl)) (by decide) (by decide)) (g := (mkF m 51 #[.val (.long q1), .second, .val (.long q2), .second, .val (.long q3), .second, .val (.int p4), .val (.int p5), .val (.int p6), .val (.int (2 : Int32)), .val (.ref b142), .unset, .unset, .unset, .unset, .unset, .unset, .unset] [(.ref b142), (.ref b149), (.ref b149)])) rfl (by rw [hml]; rfl) (Steps.refl _) (a := b149) (argsL := [(.ref b142)]) (rest := [(.ref b149)]) (lenOf pd_2 rfl) rfl (by show 2 * 0 + _ ≤ _; exact Nat.le_of_eq rfl) (hb hby at_51) (fun _ _ => ⟨rfl, e149, (by decide : 2 + 1 ≤ _), (by decide : 3 + 2 ≤ _)⟩)
    dsimp only [Pt.U, Pt.locs, Pt.cells, Pt.slots] at X153 l153 y153 z153 st153 hQ153
    subst l153 y153 z153
    obtain ⟨c153, kc153, m153, vs153, rfl, Nq153, Kc153, Ex153, Fx153, Vx153, rel153⟩ := hQ153
    have N153 := Fr.app N147 Nq153
    have f154 : n0 ≤ T153.heap.size := Nat.le_trans f150 Kc153.1
    refine EndsQ.go (fun t k => st153.trans k) ?_
    show EndsQ _ _ _ _ _ _ _ (T153.setTop (mkF m 54 #[.val (.long q1), .second, .val (.long q2), .second, .val (.long q3), .second, .val (.int p4), .val (.int p5), .val (.int p6), .val (.int (2 : Int32)), .val (.ref b142), .unset, .unset, .unset, .unset, .unset, .unset, .unset] [(.ref b149)]))
    rcases rel153 with ⟨rfl, rfl⟩ | ⟨hz1, rfl, rfl⟩ | ⟨hz1, hz0, rfl, rfl⟩
    · have ht2 := trivial
      refine EndsQ.go (b := T153.setTop (mkF m 60 #[.val (.long q1), .second, .val (.long q2), .second, .val (.long q3), .second, .val (.int p4), .val (.int p5), .val (.int p6), .val (.int (2 : Int32)), .val (.ref b142), .val (.ref b149), .unset, .unset, .unset, .unset, .unset, .unset] [(.int (p6 &&& (1 : Int32)))])) (fun t k => ?_) ?_
      · show Steps p.tables e below (T153.setTop (mkF m 54 #[.val (.long q1), .second, .val (.long q2), .second, .val (.long q3), .second, .val (.int p4), .val (.int p5), .val (.int p6), .val (.int (2 : Int32)), .val (.ref b142), .unset, .unset, .unset, .unset, .unset, .unset, .unset] [(.ref b149)])) _
        refine XS.astore X153.here hx rfl (hb hby at_54) rfl rfl (l' := #[.val (.long q1), .second, .val (.long q2), .second, .val (.long q3), .second, .val (.int p4), .val (.int p5), .val (.int p6), .val (.int (2 : Int32)), .val (.ref b142), .val (.ref b149), .unset, .unset, .unset, .unset, .unset, .unset]) rfl ?_
        show Steps p.tables e below (T153.setTop (mkF m 56 #[.val (.long q1), .second, .val (.long q2), .second, .val (.long q3), .second, .val (.int p4), .val (.int p5), .val (.int p6), .val (.int (2 : Int32)), .val (.ref b142), .val (.ref b149), .unset, .unset, .unset, .unset, .unset, .unset] [])) _
        refine XS.iload X153.here hx rfl (hb hby at_56) rfl ?_
        show Steps p.tables e below (T153.setTop (mkF m 58 #[.val (.long q1), .second, .val (.long q2), .second, .val (.long q3), .second, .val (.int p4), .val (.int p5), .val (.int p6), .val (.int (2 : Int32)), .val (.ref b142), .val (.ref b149), .unset, .unset, .unset, .unset, .unset, .unset] [(.int p6)])) _
        refine XS.iconst X153.here hx rfl (hb hby at_58) ?_
        show Steps p.tables e below (T153.setTop (mkF m 59 #[.val (.long q1), .second, .val (.long q2), .second, .val (.long q3), .second, .val (.int p4), .val (.int p5), .val (.int p6), .val (.int (2 : Int32)), .val (.ref b142), .val (.ref b149), .unset, .unset, .unset, .unset, .unset, .unset] [(.int (1 : Int32)), (.int p6)])) _
        refine XS.iand X153.here hx rfl (hb hby at_59) rfl ?_
        show Steps p.tables e below (T153.setTop (mkF m 60 #[.val (.long q1), .second, .val (.long q2), .second, .val (.long q3), .second, .val (.int p4), .val (.int p5), .val (.int p6), .val (.int (2 : Int32)), .val (.ref b142), .val (.ref b149), .unset, .unset, .unset, .unset, .unset, .unset] [(.int (p6 &&& (1 : Int32)))])) _
        exact k
      refine EndsQ.go (b := T153.setTop (mkF m 77 #[.val (.long q1), .second, .val (.long q2), .second, .val (.long q3), .second, .val (.int p4), .val (.int p5), .val (.int p6), .val (.int (2 : Int32)), .val (.ref b142), .val (.ref b149), .unset, .unset, .unset, .unset, .unset, .unset] [(.int (if (p6 &&& (1 : Int32)) = (0 : Int32) then (p5 &&& (255 : Int32)) else (p5 &&& (2147483647 : Int32))))])) (fun t k => ?_) ?_
      · by_cases hc60_155 : (p6 &&& (1 : Int32)) = (0 : Int32)
        · refine XS.ifYes X153.here hx rfl (pc0 := 60) (pc' := 71) rfl (hb hby at_60) rfl ((if0 _ _).trans (teq hc60_155).1) (by decide) (by decide) ?_
          show Steps p.tables e below (T153.setTop (mkF m 71 #[.val (.long q1), .second, .val (.long q2), .second, .val (.long q3), .second, .val (.int p4), .val (.int p5), .val (.int p6), .val (.int (2 : Int32)), .val (.ref b142), .val (.ref b149), .unset, .unset, .unset, .unset, .unset, .unset] [])) _
          refine XS.iload X153.here hx rfl (hb hby at_71) rfl ?_
          show Steps p.tables e below (T153.setTop (mkF m 73 #[.val (.long q1), .second, .val (.long q2), .second, .val (.long q3), .second, .val (.int p4), .val (.int p5), .val (.int p6), .val (.int (2 : Int32)), .val (.ref b142), .val (.ref b149), .unset, .unset, .unset, .unset, .unset, .unset] [(.int p5)])) _
          refine XS.sipush X153.here hx rfl (hb hby at_73) ?_
          show Steps p.tables e below (T153.setTop (mkF m 76 #[.val (.long q1), .second, .val (.long q2), .second, .val (.long q3), .second, .val (.int p4), .val (.int p5), .val (.int p6), .val (.int (2 : Int32)), .val (.ref b142), .val (.ref b149), .unset, .unset, .unset, .unset, .unset, .unset] [(.int (255 : Int32)), (.int p5)])) _
          refine XS.iand X153.here hx rfl (hb hby at_76) rfl ?_
          show Steps p.tables e below (T153.setTop (mkF m 77 #[.val (.long q1), .second, .val (.long q2), .second, .val (.long q3), .second, .val (.int p4), .val (.int p5), .val (.int p6), .val (.int (2 : Int32)), .val (.ref b142), .val (.ref b149), .unset, .unset, .unset, .unset, .unset, .unset] [(.int (p5 &&& (255 : Int32)))])) _
          have j0 : (if (p6 &&& (1 : Int32)) = (0 : Int32) then (p5 &&& (255 : Int32)) else (p5 &&& (2147483647 : Int32))) = (p5 &&& (255 : Int32)) := by rw [if_pos hc60_155]
          rw [j0] at k
          exact k
        · refine XS.ifNo X153.here hx rfl (hb hby at_60) rfl ((if0 _ _).trans (feq hc60_155).1) ?_
          show Steps p.tables e below (T153.setTop (mkF m 63 #[.val (.long q1), .second, .val (.long q2), .second, .val (.long q3), .second, .val (.int p4), .val (.int p5), .val (.int p6), .val (.int (2 : Int32)), .val (.ref b142), .val (.ref b149), .unset, .unset, .unset, .unset, .unset, .unset] [])) _
          refine XS.iload X153.here hx rfl (hb hby at_63) rfl ?_
          show Steps p.tables e below (T153.setTop (mkF m 65 #[.val (.long q1), .second, .val (.long q2), .second, .val (.long q3), .second, .val (.int p4), .val (.int p5), .val (.int p6), .val (.int (2 : Int32)), .val (.ref b142), .val (.ref b149), .unset, .unset, .unset, .unset, .unset, .unset] [(.int p5)])) _
          refine X153.ldcInt hx hown (mvT hZ (hw _ (List.mem_of_getElem? (i := 12) rfl))) (g := (mkF m 65 #[.val (.long q1), .second, .val (.long q2), .second, .val (.long q3), .second, .val (.int p4), .val (.int p5), .val (.int p6), .val (.int (2 : Int32)), .val (.ref b142), .val (.ref b149), .unset, .unset, .unset, .unset, .unset, .unset] [(.int p5)])) rfl (hb hby at_65) _ ?_
          show Steps p.tables e below (T153.setTop (mkF m 67 #[.val (.long q1), .second, .val (.long q2), .second, .val (.long q3), .second, .val (.int p4), .val (.int p5), .val (.int p6), .val (.int (2 : Int32)), .val (.ref b142), .val (.ref b149), .unset, .unset, .unset, .unset, .unset, .unset] [(.int (2147483647 : Int32)), (.int p5)])) _
          refine XS.iand X153.here hx rfl (hb hby at_67) rfl ?_
          show Steps p.tables e below (T153.setTop (mkF m 68 #[.val (.long q1), .second, .val (.long q2), .second, .val (.long q3), .second, .val (.int p4), .val (.int p5), .val (.int p6), .val (.int (2 : Int32)), .val (.ref b142), .val (.ref b149), .unset, .unset, .unset, .unset, .unset, .unset] [(.int (p5 &&& (2147483647 : Int32)))])) _
          refine XS.goto X153.here hx rfl (pc0 := 68) (pc' := 77) rfl (hb hby at_68) (by decide) (by decide) ?_
          show Steps p.tables e below (T153.setTop (mkF m 77 #[.val (.long q1), .second, .val (.long q2), .second, .val (.long q3), .second, .val (.int p4), .val (.int p5), .val (.int p6), .val (.int (2 : Int32)), .val (.ref b142), .val (.ref b149), .unset, .unset, .unset, .unset, .unset, .unset] [(.int (p5 &&& (2147483647 : Int32)))])) _
          have j0 : (if (p6 &&& (1 : Int32)) = (0 : Int32) then (p5 &&& (255 : Int32)) else (p5 &&& (2147483647 : Int32))) = (p5 &&& (2147483647 : Int32)) := by rw [if_neg hc60_155]
          rw [j0] at k
          exact k
      generalize hv_vv : (if (p6 &&& (1 : Int32)) = (0 : Int32) then (p5 &&& (255 : Int32)) else (p5 &&& (2147483647 : Int32))) = vv
      have hb_v : 0 ≤ vv.toInt := by rw [← hv_vv]; exact own_v p5 p6
      have hkw := own_kw vv hb_v
      show EndsQ _ _ _ _ _ _ _ (T153.setTop (mkF m 77 #[.val (.long q1), .second, .val (.long q2), .second, .val (.long q3), .second, .val (.int p4), .val (.int p5), .val (.int p6), .val (.int (2 : Int32)), .val (.ref b142), .val (.ref b149), .unset, .unset, .unset, .unset, .unset, .unset] [(.int vv)]))
      refine EndsQ.go (b := T153.setTop (mkF m 86 #[.val (.long q1), .second, .val (.long q2), .second, .val (.long q3), .second, .val (.int p4), .val (.int p5), .val (.int p6), .val (.int (2 : Int32)), .val (.ref b142), .val (.ref b149), .val (.int vv), .val (.int (vv / (64 : Int32))), .unset, .unset, .unset, .unset] [])) (fun t k => ?_) ?_
      · show Steps p.tables e below (T153.setTop (mkF m 77 #[.val (.long q1), .second, .val (.long q2), .second, .val (.long q3), .second, .val (.int p4), .val (.int p5), .val (.int p6), .val (.int (2 : Int32)), .val (.ref b142), .val (.ref b149), .unset, .unset, .unset, .unset, .unset, .unset] [(.int vv)])) _
        refine XS.istore X153.here hx rfl (hb hby at_77) rfl (l' := #[.val (.long q1), .second, .val (.long q2), .second, .val (.long q3), .second, .val (.int p4), .val (.int p5), .val (.int p6), .val (.int (2 : Int32)), .val (.ref b142), .val (.ref b149), .val (.int vv), .unset, .unset, .unset, .unset, .unset]) rfl ?_
        show Steps p.tables e below (T153.setTop (mkF m 79 #[.val (.long q1), .second, .val (.long q2), .second, .val (.long q3), .second, .val (.int p4), .val (.int p5), .val (.int p6), .val (.int (2 : Int32)), .val (.ref b142), .val (.ref b149), .val (.int vv), .unset, .unset, .unset, .unset, .unset] [])) _
        refine XS.iload X153.here hx rfl (hb hby at_79) rfl ?_
        show Steps p.tables e below (T153.setTop (mkF m 81 #[.val (.long q1), .second, .val (.long q2), .second, .val (.long q3), .second, .val (.int p4), .val (.int p5), .val (.int p6), .val (.int (2 : Int32)), .val (.ref b142), .val (.ref b149), .val (.int vv), .unset, .unset, .unset, .unset, .unset] [(.int vv)])) _
        refine XS.bipush X153.here hx rfl (hb hby at_81) ?_
        show Steps p.tables e below (T153.setTop (mkF m 83 #[.val (.long q1), .second, .val (.long q2), .second, .val (.long q3), .second, .val (.int p4), .val (.int p5), .val (.int p6), .val (.int (2 : Int32)), .val (.ref b142), .val (.ref b149), .val (.int vv), .unset, .unset, .unset, .unset, .unset] [(.int (64 : Int32)), (.int vv)])) _
        refine XS.idiv X153.here hx rfl (hb hby at_83) rfl (by decide) ?_
        show Steps p.tables e below (T153.setTop (mkF m 84 #[.val (.long q1), .second, .val (.long q2), .second, .val (.long q3), .second, .val (.int p4), .val (.int p5), .val (.int p6), .val (.int (2 : Int32)), .val (.ref b142), .val (.ref b149), .val (.int vv), .unset, .unset, .unset, .unset, .unset] [(.int (vv / (64 : Int32)))])) _
        refine XS.istore X153.here hx rfl (hb hby at_84) rfl (l' := #[.val (.long q1), .second, .val (.long q2), .second, .val (.long q3), .second, .val (.int p4), .val (.int p5), .val (.int p6), .val (.int (2 : Int32)), .val (.ref b142), .val (.ref b149), .val (.int vv), .val (.int (vv / (64 : Int32))), .unset, .unset, .unset, .unset]) rfl ?_
        show Steps p.tables e below (T153.setTop (mkF m 86 #[.val (.long q1), .second, .val (.long q2), .second, .val (.long q3), .second, .val (.int p4), .val (.int p5), .val (.int p6), .val (.int (2 : Int32)), .val (.ref b142), .val (.ref b149), .val (.int vv), .val (.int (vv / (64 : Int32))), .unset, .unset, .unset, .unset] [])) _
        exact k
      generalize hv_kk : (vv / (64 : Int32)) = kk
      rw [hv_kk] at hkw
      show EndsQ _ _ _ _ _ _ _ (T153.setTop (mkF m 86 #[.val (.long q1), .second, .val (.long q2), .second, .val (.long q3), .second, .val (.int p4), .val (.int p5), .val (.int p6), .val (.int (2 : Int32)), .val (.ref b142), .val (.ref b149), .val (.int vv), .val (.int kk), .unset, .unset, .unset, .unset] []))
      refine EndsQ.go (b := T153.setTop (mkF m 93 #[.val (.long q1), .second, .val (.long q2), .second, .val (.long q3), .second, .val (.int p4), .val (.int p5), .val (.int p6), .val (.int (2 : Int32)), .val (.ref b142), .val (.ref b149), .val (.int vv), .val (.int kk), .val (.int (vv % (64 : Int32))), .unset, .unset, .unset] [])) (fun t k => ?_) ?_
      · show Steps p.tables e below (T153.setTop (mkF m 86 #[.val (.long q1), .second, .val (.long q2), .second, .val (.long q3), .second, .val (.int p4), .val (.int p5), .val (.int p6), .val (.int (2 : Int32)), .val (.ref b142), .val (.ref b149), .val (.int vv), .val (.int kk), .unset, .unset, .unset, .unset] [])) _
        refine XS.iload X153.here hx rfl (hb hby at_86) rfl ?_
        show Steps p.tables e below (T153.setTop (mkF m 88 #[.val (.long q1), .second, .val (.long q2), .second, .val (.long q3), .second, .val (.int p4), .val (.int p5), .val (.int p6), .val (.int (2 : Int32)), .val (.ref b142), .val (.ref b149), .val (.int vv), .val (.int kk), .unset, .unset, .unset, .unset] [(.int vv)])) _
        refine XS.bipush X153.here hx rfl (hb hby at_88) ?_
        show Steps p.tables e below (T153.setTop (mkF m 90 #[.val (.long q1), .second, .val (.long q2), .second, .val (.long q3), .second, .val (.int p4), .val (.int p5), .val (.int p6), .val (.int (2 : Int32)), .val (.ref b142), .val (.ref b149), .val (.int vv), .val (.int kk), .unset, .unset, .unset, .unset] [(.int (64 : Int32)), (.int vv)])) _
        refine iremM X153 hx rfl (hb hby at_90) rfl (by decide) ?_
        show Steps p.tables e below (T153.setTop (mkF m 91 #[.val (.long q1), .second, .val (.long q2), .second, .val (.long q3), .second, .val (.int p4), .val (.int p5), .val (.int p6), .val (.int (2 : Int32)), .val (.ref b142), .val (.ref b149), .val (.int vv), .val (.int kk), .unset, .unset, .unset, .unset] [(.int (vv % (64 : Int32)))])) _
        refine XS.istore X153.here hx rfl (hb hby at_91) rfl (l' := #[.val (.long q1), .second, .val (.long q2), .second, .val (.long q3), .second, .val (.int p4), .val (.int p5), .val (.int p6), .val (.int (2 : Int32)), .val (.ref b142), .val (.ref b149), .val (.int vv), .val (.int kk), .val (.int (vv % (64 : Int32))), .unset, .unset, .unset]) rfl ?_
        show Steps p.tables e below (T153.setTop (mkF m 93 #[.val (.long q1), .second, .val (.long q2), .second, .val (.long q3), .second, .val (.int p4), .val (.int p5), .val (.int p6), .val (.int (2 : Int32)), .val (.ref b142), .val (.ref b149), .val (.int vv), .val (.int kk), .val (.int (vv % (64 : Int32))), .unset, .unset, .unset] [])) _
        exact k
      generalize hv_bb : (vv % (64 : Int32)) = bb
      show EndsQ _ _ _ _ _ _ _ (T153.setTop (mkF m 93 #[.val (.long q1), .second, .val (.long q2), .second, .val (.long q3), .second, .val (.int p4), .val (.int p5), .val (.int p6), .val (.int (2 : Int32)), .val (.ref b142), .val (.ref b149), .val (.int vv), .val (.int kk), .val (.int bb), .unset, .unset, .unset] []))
      refine EndsQ.go (b := T153.setTop (mkF m 97 #[.val (.long q1), .second, .val (.long q2), .second, .val (.long q3), .second, .val (.int p4), .val (.int p5), .val (.int p6), .val (.int (2 : Int32)), .val (.ref b142), .val (.ref b149), .val (.int vv), .val (.int kk), .val (.int bb), .unset, .unset, .unset] [(.int (2 : Int32)), (.int kk)])) (fun t k => ?_) ?_
      · show Steps p.tables e below (T153.setTop (mkF m 93 #[.val (.long q1), .second, .val (.long q2), .second, .val (.long q3), .second, .val (.int p4), .val (.int p5), .val (.int p6), .val (.int (2 : Int32)), .val (.ref b142), .val (.ref b149), .val (.int vv), .val (.int kk), .val (.int bb), .unset, .unset, .unset] [])) _
        refine XS.iload X153.here hx rfl (hb hby at_93) rfl ?_
        show Steps p.tables e below (T153.setTop (mkF m 95 #[.val (.long q1), .second, .val (.long q2), .second, .val (.long q3), .second, .val (.int p4), .val (.int p5), .val (.int p6), .val (.int (2 : Int32)), .val (.ref b142), .val (.ref b149), .val (.int vv), .val (.int kk), .val (.int bb), .unset, .unset, .unset] [(.int kk)])) _
        refine XS.iload X153.here hx rfl (hb hby at_95) rfl ?_
        show Steps p.tables e below (T153.setTop (mkF m 97 #[.val (.long q1), .second, .val (.long q2), .second, .val (.long q3), .second, .val (.int p4), .val (.int p5), .val (.int p6), .val (.int (2 : Int32)), .val (.ref b142), .val (.ref b149), .val (.int vv), .val (.int kk), .val (.int bb), .unset, .unset, .unset] [(.int (2 : Int32)), (.int kk)])) _
        exact k
      by_cases hc97_156 : kk < (2 : Int32)
      · refine EndsQ.go (b := T153.setTop (mkF m 106 #[.val (.long q1), .second, .val (.long q2), .second, .val (.long q3), .second, .val (.int p4), .val (.int p5), .val (.int p6), .val (.int (2 : Int32)), .val (.ref b142), .val (.ref b149), .val (.int vv), .val (.int kk), .val (.int bb), .unset, .unset, .unset] [])) (fun t k => ?_) ?_
        · show Steps p.tables e below (T153.setTop (mkF m 97 #[.val (.long q1), .second, .val (.long q2), .second, .val (.long q3), .second, .val (.int p4), .val (.int p5), .val (.int p6), .val (.int (2 : Int32)), .val (.ref b142), .val (.ref b149), .val (.int vv), .val (.int kk), .val (.int bb), .unset, .unset, .unset] [(.int (2 : Int32)), (.int kk)])) _
          refine XS.icmpYes X153.here hx rfl (pc0 := 97) (pc' := 106) rfl (hb hby at_97) rfl (tlt hc97_156).1 (by decide) (by decide) ?_
          show Steps p.tables e below (T153.setTop (mkF m 106 #[.val (.long q1), .second, .val (.long q2), .second, .val (.long q3), .second, .val (.int p4), .val (.int p5), .val (.int p6), .val (.int (2 : Int32)), .val (.ref b142), .val (.ref b149), .val (.int vv), .val (.int kk), .val (.int bb), .unset, .unset, .unset] [])) _
          exact k
        refine EndsQ.go (b := T153.setTop (mkF m 108 #[.val (.long q1), .second, .val (.long q2), .second, .val (.long q3), .second, .val (.int p4), .val (.int p5), .val (.int p6), .val (.int (2 : Int32)), .val (.ref b142), .val (.ref b149), .val (.int vv), .val (.int kk), .val (.int bb), .unset, .unset, .unset] [(.int kk)])) (fun t k => ?_) ?_
        · show Steps p.tables e below (T153.setTop (mkF m 106 #[.val (.long q1), .second, .val (.long q2), .second, .val (.long q3), .second, .val (.int p4), .val (.int p5), .val (.int p6), .val (.int (2 : Int32)), .val (.ref b142), .val (.ref b149), .val (.int vv), .val (.int kk), .val (.int bb), .unset, .unset, .unset] [])) _
          refine XS.iload X153.here hx rfl (hb hby at_106) rfl ?_
          show Steps p.tables e below (T153.setTop (mkF m 108 #[.val (.long q1), .second, .val (.long q2), .second, .val (.long q3), .second, .val (.int p4), .val (.int p5), .val (.int p6), .val (.int (2 : Int32)), .val (.ref b142), .val (.ref b149), .val (.int vv), .val (.int kk), .val (.int bb), .unset, .unset, .unset] [(.int kk)])) _
          exact k
        refine EndsQ.go (b := T153.setTop (mkF m 127 #[.val (.long q1), .second, .val (.long q2), .second, .val (.long q3), .second, .val (.int p4), .val (.int p5), .val (.int p6), .val (.int (2 : Int32)), .val (.ref b142), .val (.ref b149), .val (.int vv), .val (.int kk), .val (.int bb), .unset, .unset, .unset] [(.long (if kk = (0 : Int32) then q1 else (if kk = (1 : Int32) then q2 else q3)))])) (fun t k => ?_) ?_
        · by_cases hc108_157 : kk = (0 : Int32)
          · refine XS.ifNo X153.here hx rfl (hb hby at_108) rfl ((if0 _ _).trans (teq hc108_157).2) ?_
            show Steps p.tables e below (T153.setTop (mkF m 111 #[.val (.long q1), .second, .val (.long q2), .second, .val (.long q3), .second, .val (.int p4), .val (.int p5), .val (.int p6), .val (.int (2 : Int32)), .val (.ref b142), .val (.ref b149), .val (.int vv), .val (.int kk), .val (.int bb), .unset, .unset, .unset] [])) _
            refine XS.lloadN X153.here hx rfl (hb hby at_111) rfl ?_
            show Steps p.tables e below (T153.setTop (mkF m 112 #[.val (.long q1), .second, .val (.long q2), .second, .val (.long q3), .second, .val (.int p4), .val (.int p5), .val (.int p6), .val (.int (2 : Int32)), .val (.ref b142), .val (.ref b149), .val (.int vv), .val (.int kk), .val (.int bb), .unset, .unset, .unset] [(.long q1)])) _
            refine XS.goto X153.here hx rfl (pc0 := 112) (pc' := 127) rfl (hb hby at_112) (by decide) (by decide) ?_
            show Steps p.tables e below (T153.setTop (mkF m 127 #[.val (.long q1), .second, .val (.long q2), .second, .val (.long q3), .second, .val (.int p4), .val (.int p5), .val (.int p6), .val (.int (2 : Int32)), .val (.ref b142), .val (.ref b149), .val (.int vv), .val (.int kk), .val (.int bb), .unset, .unset, .unset] [(.long q1)])) _
            have j0 : (if kk = (0 : Int32) then q1 else (if kk = (1 : Int32) then q2 else q3)) = q1 := by rw [if_pos hc108_157]
            rw [j0] at k
            exact k
          · refine XS.ifYes X153.here hx rfl (pc0 := 108) (pc' := 115) rfl (hb hby at_108) rfl ((if0 _ _).trans (feq hc108_157).2) (by decide) (by decide) ?_
            show Steps p.tables e below (T153.setTop (mkF m 115 #[.val (.long q1), .second, .val (.long q2), .second, .val (.long q3), .second, .val (.int p4), .val (.int p5), .val (.int p6), .val (.int (2 : Int32)), .val (.ref b142), .val (.ref b149), .val (.int vv), .val (.int kk), .val (.int bb), .unset, .unset, .unset] [])) _
            refine XS.iload X153.here hx rfl (hb hby at_115) rfl ?_
            show Steps p.tables e below (T153.setTop (mkF m 117 #[.val (.long q1), .second, .val (.long q2), .second, .val (.long q3), .second, .val (.int p4), .val (.int p5), .val (.int p6), .val (.int (2 : Int32)), .val (.ref b142), .val (.ref b149), .val (.int vv), .val (.int kk), .val (.int bb), .unset, .unset, .unset] [(.int kk)])) _
            refine XS.iconst X153.here hx rfl (hb hby at_117) ?_
            show Steps p.tables e below (T153.setTop (mkF m 118 #[.val (.long q1), .second, .val (.long q2), .second, .val (.long q3), .second, .val (.int p4), .val (.int p5), .val (.int p6), .val (.int (2 : Int32)), .val (.ref b142), .val (.ref b149), .val (.int vv), .val (.int kk), .val (.int bb), .unset, .unset, .unset] [(.int (1 : Int32)), (.int kk)])) _
            by_cases hc118_158 : kk = (1 : Int32)
            · refine XS.icmpNo X153.here hx rfl (hb hby at_118) rfl (teq hc118_158).2 ?_
              show Steps p.tables e below (T153.setTop (mkF m 121 #[.val (.long q1), .second, .val (.long q2), .second, .val (.long q3), .second, .val (.int p4), .val (.int p5), .val (.int p6), .val (.int (2 : Int32)), .val (.ref b142), .val (.ref b149), .val (.int vv), .val (.int kk), .val (.int bb), .unset, .unset, .unset] [])) _
              refine XS.lloadN X153.here hx rfl (hb hby at_121) rfl ?_
              show Steps p.tables e below (T153.setTop (mkF m 122 #[.val (.long q1), .second, .val (.long q2), .second, .val (.long q3), .second, .val (.int p4), .val (.int p5), .val (.int p6), .val (.int (2 : Int32)), .val (.ref b142), .val (.ref b149), .val (.int vv), .val (.int kk), .val (.int bb), .unset, .unset, .unset] [(.long q2)])) _
              refine XS.goto X153.here hx rfl (pc0 := 122) (pc' := 127) rfl (hb hby at_122) (by decide) (by decide) ?_
              show Steps p.tables e below (T153.setTop (mkF m 127 #[.val (.long q1), .second, .val (.long q2), .second, .val (.long q3), .second, .val (.int p4), .val (.int p5), .val (.int p6), .val (.int (2 : Int32)), .val (.ref b142), .val (.ref b149), .val (.int vv), .val (.int kk), .val (.int bb), .unset, .unset, .unset] [(.long q2)])) _
              have j0 : (if kk = (0 : Int32) then q1 else (if kk = (1 : Int32) then q2 else q3)) = q2 := by rw [if_neg hc108_157, if_pos hc118_158]
              rw [j0] at k
              exact k
            · refine XS.icmpYes X153.here hx rfl (pc0 := 118) (pc' := 125) rfl (hb hby at_118) rfl (feq hc118_158).2 (by decide) (by decide) ?_
              show Steps p.tables e below (T153.setTop (mkF m 125 #[.val (.long q1), .second, .val (.long q2), .second, .val (.long q3), .second, .val (.int p4), .val (.int p5), .val (.int p6), .val (.int (2 : Int32)), .val (.ref b142), .val (.ref b149), .val (.int vv), .val (.int kk), .val (.int bb), .unset, .unset, .unset] [])) _
              refine XS.lload X153.here hx rfl (hb hby at_125) rfl ?_
              show Steps p.tables e below (T153.setTop (mkF m 127 #[.val (.long q1), .second, .val (.long q2), .second, .val (.long q3), .second, .val (.int p4), .val (.int p5), .val (.int p6), .val (.int (2 : Int32)), .val (.ref b142), .val (.ref b149), .val (.int vv), .val (.int kk), .val (.int bb), .unset, .unset, .unset] [(.long q3)])) _
              have j0 : (if kk = (0 : Int32) then q1 else (if kk = (1 : Int32) then q2 else q3)) = q3 := by rw [if_neg hc108_157, if_neg hc118_158]
              rw [j0] at k
              exact k
        generalize hv_ww : (if kk = (0 : Int32) then q1 else (if kk = (1 : Int32) then q2 else q3)) = ww
        show EndsQ _ _ _ _ _ _ _ (T153.setTop (mkF m 127 #[.val (.long q1), .second, .val (.long q2), .second, .val (.long q3), .second, .val (.int p4), .val (.int p5), .val (.int p6), .val (.int (2 : Int32)), .val (.ref b142), .val (.ref b149), .val (.int vv), .val (.int kk), .val (.int bb), .unset, .unset, .unset] [(.long ww)]))
        refine EndsQ.go (b := T153.setTop (mkF m 138 #[.val (.long q1), .second, .val (.long q2), .second, .val (.long q3), .second, .val (.int p4), .val (.int p5), .val (.int p6), .val (.int (2 : Int32)), .val (.ref b142), .val (.ref b149), .val (.int vv), .val (.int kk), .val (.int bb), .unset, .val (.long ww), .second] [(.int (lcmpW (ww &&& ((1 : Int64) <<< (bb &&& 0x3f).toInt64)) (0 : Int64)))])) (fun t k => ?_) ?_
        · show Steps p.tables e below (T153.setTop (mkF m 127 #[.val (.long q1), .second, .val (.long q2), .second, .val (.long q3), .second, .val (.int p4), .val (.int p5), .val (.int p6), .val (.int (2 : Int32)), .val (.ref b142), .val (.ref b149), .val (.int vv), .val (.int kk), .val (.int bb), .unset, .unset, .unset] [(.long ww)])) _
          refine XS.lstore X153.here hx rfl (hb hby at_127) rfl (l' := #[.val (.long q1), .second, .val (.long q2), .second, .val (.long q3), .second, .val (.int p4), .val (.int p5), .val (.int p6), .val (.int (2 : Int32)), .val (.ref b142), .val (.ref b149), .val (.int vv), .val (.int kk), .val (.int bb), .unset, .val (.long ww), .second]) rfl ?_
          show Steps p.tables e below (T153.setTop (mkF m 129 #[.val (.long q1), .second, .val (.long q2), .second, .val (.long q3), .second, .val (.int p4), .val (.int p5), .val (.int p6), .val (.int (2 : Int32)), .val (.ref b142), .val (.ref b149), .val (.int vv), .val (.int kk), .val (.int bb), .unset, .val (.long ww), .second] [])) _
          refine XS.lload X153.here hx rfl (hb hby at_129) rfl ?_
          show Steps p.tables e below (T153.setTop (mkF m 131 #[.val (.long q1), .second, .val (.long q2), .second, .val (.long q3), .second, .val (.int p4), .val (.int p5), .val (.int p6), .val (.int (2 : Int32)), .val (.ref b142), .val (.ref b149), .val (.int vv), .val (.int kk), .val (.int bb), .unset, .val (.long ww), .second] [(.long ww)])) _
          refine XS.lconst X153.here hx rfl (hb hby at_131) ?_
          show Steps p.tables e below (T153.setTop (mkF m 132 #[.val (.long q1), .second, .val (.long q2), .second, .val (.long q3), .second, .val (.int p4), .val (.int p5), .val (.int p6), .val (.int (2 : Int32)), .val (.ref b142), .val (.ref b149), .val (.int vv), .val (.int kk), .val (.int bb), .unset, .val (.long ww), .second] [(.long (1 : Int64)), (.long ww)])) _
          refine XS.iload X153.here hx rfl (hb hby at_132) rfl ?_
          show Steps p.tables e below (T153.setTop (mkF m 134 #[.val (.long q1), .second, .val (.long q2), .second, .val (.long q3), .second, .val (.int p4), .val (.int p5), .val (.int p6), .val (.int (2 : Int32)), .val (.ref b142), .val (.ref b149), .val (.int vv), .val (.int kk), .val (.int bb), .unset, .val (.long ww), .second] [(.int bb), (.long (1 : Int64)), (.long ww)])) _
          refine XS.lshl X153.here hx rfl (hb hby at_134) rfl ?_
          show Steps p.tables e below (T153.setTop (mkF m 135 #[.val (.long q1), .second, .val (.long q2), .second, .val (.long q3), .second, .val (.int p4), .val (.int p5), .val (.int p6), .val (.int (2 : Int32)), .val (.ref b142), .val (.ref b149), .val (.int vv), .val (.int kk), .val (.int bb), .unset, .val (.long ww), .second] [(.long ((1 : Int64) <<< (bb &&& 0x3f).toInt64)), (.long ww)])) _
          refine XS.land X153.here hx rfl (hb hby at_135) rfl ?_
          show Steps p.tables e below (T153.setTop (mkF m 136 #[.val (.long q1), .second, .val (.long q2), .second, .val (.long q3), .second, .val (.int p4), .val (.int p5), .val (.int p6), .val (.int (2 : Int32)), .val (.ref b142), .val (.ref b149), .val (.int vv), .val (.int kk), .val (.int bb), .unset, .val (.long ww), .second] [(.long (ww &&& ((1 : Int64) <<< (bb &&& 0x3f).toInt64)))])) _
          refine XS.lconst X153.here hx rfl (hb hby at_136) ?_
          show Steps p.tables e below (T153.setTop (mkF m 137 #[.val (.long q1), .second, .val (.long q2), .second, .val (.long q3), .second, .val (.int p4), .val (.int p5), .val (.int p6), .val (.int (2 : Int32)), .val (.ref b142), .val (.ref b149), .val (.int vv), .val (.int kk), .val (.int bb), .unset, .val (.long ww), .second] [(.long (0 : Int64)), (.long (ww &&& ((1 : Int64) <<< (bb &&& 0x3f).toInt64)))])) _
          refine XS.lcmp X153.here hx rfl (hb hby at_137) rfl ?_
          show Steps p.tables e below (T153.setTop (mkF m 138 #[.val (.long q1), .second, .val (.long q2), .second, .val (.long q3), .second, .val (.int p4), .val (.int p5), .val (.int p6), .val (.int (2 : Int32)), .val (.ref b142), .val (.ref b149), .val (.int vv), .val (.int kk), .val (.int bb), .unset, .val (.long ww), .second] [(.int (lcmpW (ww &&& ((1 : Int64) <<< (bb &&& 0x3f).toInt64)) (0 : Int64)))])) _
          exact k
        refine EndsQ.go (b := T153.setTop (mkF m 146 #[.val (.long q1), .second, .val (.long q2), .second, .val (.long q3), .second, .val (.int p4), .val (.int p5), .val (.int p6), .val (.int (2 : Int32)), .val (.ref b142), .val (.ref b149), .val (.int vv), .val (.int kk), .val (.int bb), .unset, .val (.long ww), .second] [(.int (if (ww &&& ((1 : Int64) <<< (bb &&& 0x3f).toInt64)) = (0 : Int64) then (0 : Int32) else (1 : Int32)))])) (fun t k => ?_) ?_
        · by_cases hc138_159 : (ww &&& ((1 : Int64) <<< (bb &&& 0x3f).toInt64)) = (0 : Int64)
          · refine XS.ifYes X153.here hx rfl (pc0 := 138) (pc' := 145) rfl (hb hby at_138) rfl ((if0 _ _).trans (teq ((lw_eq (ww &&& ((1 : Int64) <<< (bb &&& 0x3f).toInt64)) (0 : Int64)).mpr hc138_159)).1) (by decide) (by decide) ?_
            show Steps p.tables e below (T153.setTop (mkF m 145 #[.val (.long q1), .second, .val (.long q2), .second, .val (.long q3), .second, .val (.int p4), .val (.int p5), .val (.int p6), .val (.int (2 : Int32)), .val (.ref b142), .val (.ref b149), .val (.int vv), .val (.int kk), .val (.int bb), .unset, .val (.long ww), .second] [])) _
            refine XS.iconst X153.here hx rfl (hb hby at_145) ?_
            show Steps p.tables e below (T153.setTop (mkF m 146 #[.val (.long q1), .second, .val (.long q2), .second, .val (.long q3), .second, .val (.int p4), .val (.int p5), .val (.int p6), .val (.int (2 : Int32)), .val (.ref b142), .val (.ref b149), .val (.int vv), .val (.int kk), .val (.int bb), .unset, .val (.long ww), .second] [(.int (0 : Int32))])) _
            have j0 : (if (ww &&& ((1 : Int64) <<< (bb &&& 0x3f).toInt64)) = (0 : Int64) then (0 : Int32) else (1 : Int32)) = (0 : Int32) := by rw [if_pos hc138_159]
            rw [j0] at k
            exact k
          · refine XS.ifNo X153.here hx rfl (hb hby at_138) rfl ((if0 _ _).trans (feq (fun q => hc138_159 ((lw_eq (ww &&& ((1 : Int64) <<< (bb &&& 0x3f).toInt64)) (0 : Int64)).mp q))).1) ?_
            show Steps p.tables e below (T153.setTop (mkF m 141 #[.val (.long q1), .second, .val (.long q2), .second, .val (.long q3), .second, .val (.int p4), .val (.int p5), .val (.int p6), .val (.int (2 : Int32)), .val (.ref b142), .val (.ref b149), .val (.int vv), .val (.int kk), .val (.int bb), .unset, .val (.long ww), .second] [])) _
            refine XS.iconst X153.here hx rfl (hb hby at_141) ?_
            show Steps p.tables e below (T153.setTop (mkF m 142 #[.val (.long q1), .second, .val (.long q2), .second, .val (.long q3), .second, .val (.int p4), .val (.int p5), .val (.int p6), .val (.int (2 : Int32)), .val (.ref b142), .val (.ref b149), .val (.int vv), .val (.int kk), .val (.int bb), .unset, .val (.long ww), .second] [(.int (1 : Int32))])) _
            refine XS.goto X153.here hx rfl (pc0 := 142) (pc' := 146) rfl (hb hby at_142) (by decide) (by decide) ?_
            show Steps p.tables e below (T153.setTop (mkF m 146 #[.val (.long q1), .second, .val (.long q2), .second, .val (.long q3), .second, .val (.int p4), .val (.int p5), .val (.int p6), .val (.int (2 : Int32)), .val (.ref b142), .val (.ref b149), .val (.int vv), .val (.int kk), .val (.int bb), .unset, .val (.long ww), .second] [(.int (1 : Int32))])) _
            have j0 : (if (ww &&& ((1 : Int64) <<< (bb &&& 0x3f).toInt64)) = (0 : Int64) then (0 : Int32) else (1 : Int32)) = (1 : Int32) := by rw [if_neg hc138_159]
            rw [j0] at k
            exact k
        generalize hv_ee : (if (ww &&& ((1 : Int64) <<< (bb &&& 0x3f).toInt64)) = (0 : Int64) then (0 : Int32) else (1 : Int32)) = ee
        show EndsQ _ _ _ _ _ _ _ (T153.setTop (mkF m 146 #[.val (.long q1), .second, .val (.long q2), .second, .val (.long q3), .second, .val (.int p4), .val (.int p5), .val (.int p6), .val (.int (2 : Int32)), .val (.ref b142), .val (.ref b149), .val (.int vv), .val (.int kk), .val (.int bb), .unset, .val (.long ww), .second] [(.int ee)]))
        refine EndsQ.go (b := T153.setTop (mkF m 152 #[.val (.long q1), .second, .val (.long q2), .second, .val (.long q3), .second, .val (.int p4), .val (.int p5), .val (.int p6), .val (.int (2 : Int32)), .val (.ref b142), .val (.ref b149), .val (.int vv), .val (.int kk), .val (.int bb), .val (.int ee), .val (.long ww), .second] [(.int vv), (.ref b149)])) (fun t k => ?_) ?_
        · show Steps p.tables e below (T153.setTop (mkF m 146 #[.val (.long q1), .second, .val (.long q2), .second, .val (.long q3), .second, .val (.int p4), .val (.int p5), .val (.int p6), .val (.int (2 : Int32)), .val (.ref b142), .val (.ref b149), .val (.int vv), .val (.int kk), .val (.int bb), .unset, .val (.long ww), .second] [(.int ee)])) _
          refine XS.istore X153.here hx rfl (hb hby at_146) rfl (l' := #[.val (.long q1), .second, .val (.long q2), .second, .val (.long q3), .second, .val (.int p4), .val (.int p5), .val (.int p6), .val (.int (2 : Int32)), .val (.ref b142), .val (.ref b149), .val (.int vv), .val (.int kk), .val (.int bb), .val (.int ee), .val (.long ww), .second]) rfl ?_
          show Steps p.tables e below (T153.setTop (mkF m 148 #[.val (.long q1), .second, .val (.long q2), .second, .val (.long q3), .second, .val (.int p4), .val (.int p5), .val (.int p6), .val (.int (2 : Int32)), .val (.ref b142), .val (.ref b149), .val (.int vv), .val (.int kk), .val (.int bb), .val (.int ee), .val (.long ww), .second] [])) _
          refine XS.aload X153.here hx rfl (hb hby at_148) rfl rfl ?_
          show Steps p.tables e below (T153.setTop (mkF m 150 #[.val (.long q1), .second, .val (.long q2), .second, .val (.long q3), .second, .val (.int p4), .val (.int p5), .val (.int p6), .val (.int (2 : Int32)), .val (.ref b142), .val (.ref b149), .val (.int vv), .val (.int kk), .val (.int bb), .val (.int ee), .val (.long ww), .second] [(.ref b149)])) _
          refine XS.iload X153.here hx rfl (hb hby at_150) rfl ?_
          show Steps p.tables e below (T153.setTop (mkF m 152 #[.val (.long q1), .second, .val (.long q2), .second, .val (.long q3), .second, .val (.int p4), .val (.int p5), .val (.int p6), .val (.int (2 : Int32)), .val (.ref b142), .val (.ref b149), .val (.int vv), .val (.int kk), .val (.int bb), .val (.int ee), .val (.long ww), .second] [(.int vv), (.ref b149)])) _
          exact k
        have hsel : own_w vv < (2 : Int32) → (¬ own_w vv < 0 ∧ own_w vv < (2 : Int32)) ∧ ([(.long q1), (.long q2)] : List Value).getD (own_w vv).toNatClampNeg (.long (0 : Int64)) = .long ww := by
          intro hlt
          rw [hkw.1] at hlt ⊢
          rw [← hv_ww]
          rcases own_c3 kk hkw.2 with q | q | q | q
          · rw [q] at hlt ⊢; exact ⟨by decide, rfl⟩
          · rw [q] at hlt ⊢; exact ⟨by decide, rfl⟩
          · rw [q] at hlt ⊢; exact absurd hlt (by decide)
          · exact absurd hlt (own_gt2 kk (2 : Int32) q (by decide))
        have hz0 : ¬ kk < (2 : Int32) → ww = 0 := by
          intro hlt
          rw [← hv_ww]
          rcases own_c3 kk hkw.2 with q | q | q | q
          · rw [q] at hlt hc97_156 ⊢; exact absurd (by decide) hlt
          · rw [q] at hlt hc97_156 ⊢; exact absurd (by decide) hlt
          · rw [q] at hlt hc97_156 ⊢; exact absurd hc97_156 (by decide)
          · exact absurd hc97_156 (own_gt2 kk (2 : Int32) q (by decide))
        obtain ⟨cq160, kq160, qa160, qb160, qc160⟩ := isOf hZ rfl Ex153
        obtain ⟨_, _, ⟨T160, L160, kk160, nn160⟩, -, X160, ⟨Lc160, hQ160, l160, y160, z160⟩, st160⟩ := X153.virtualBack hx (y := (⟨"com/example/sextant/sextant/ValueSet", "contains", "(I)Z"⟩ : MethodName)) (z := (⟨"com/example/sextant/sextant/ValueSet", "contains", "(I)Z"⟩ : MethodName)) hown (mvT hZ (hw _ (List.mem_of_getElem? (i := 13) rfl))) (mvT hZ (hw _ (List.mem_of_getElem? (i := 14) rfl))) (notFace_of_selects (args := #[]) (mvT hZ (hw _ (List.mem_of_getElem? (i := 16) rfl)))) (mvT hZ (hw _ (List.mem_of_getElem? (i := 16) rfl))) (mvT hZ (hw _ (List.mem_of_getElem? (i := 15) rfl))) (by decide) (backOf (W := 0) (rm3 l Z a0 hw [] b149 vv c153 kc153 (2 : Int32) [(.long q1), (.long q2)] ww T153.heap n0 f154 Fx153 Vx153 hsel) hZ (hw _ (List.mem_of_getElem? (i := 17) rfl)) (hw _ (List.mem_of_getElem? (i := 3) rfl)) (by decide) (by decide)) qa160 qc160 (g := (mkF m 152 #[.val (.long q1), .second, .val (.long q2), .second, .val (.long q3), .second, .val (.int p4), .val (.int p5), .val (.int p6), .val (.int (2 : Int32)), .val (.ref b142), .val (.ref b149), .val (.int vv), .val (.int kk), .val (.int bb), .val (.int ee), .val (.long ww), .second] [(.int vv), (.ref b149)])) rfl (by rw [hml]; rfl) (Steps.refl _) (argsL := [(.int vv)]) (rest := []) (lenOf pd_3 rfl) rfl (by show 2 * 0 + _ ≤ _; exact Nat.le_of_eq rfl) (hb hby at_152) (fun _ _ => ⟨rfl, rfl, (by decide : 3 + 0 ≤ _), (by decide : 5 + 0 ≤ _)⟩)
        dsimp only [Pt.U, Pt.locs, Pt.cells, Pt.slots] at X160 l160 y160 z160 st160 hQ160
        subst l160 y160 z160
        obtain ⟨rfl, Nq160, eq160⟩ := hQ160
        have N160 := Fr.app N153 Nq160
        refine EndsQ.go (fun t k => st160.trans k) ?_
        show EndsQ _ _ _ _ _ _ _ (T160.setTop (mkF m 155 #[.val (.long q1), .second, .val (.long q2), .second, .val (.long q3), .second, .val (.int p4), .val (.int p5), .val (.int p6), .val (.int (2 : Int32)), .val (.ref b142), .val (.ref b149), .val (.int vv), .val (.int kk), .val (.int bb), .val (.int ee), .val (.long ww), .second] [(.int (own_has vv (2 : Int32) ww))]))
        refine EndsQ.go (b := T160.setTop (mkF m 165 #[.val (.long q1), .second, .val (.long q2), .second, .val (.long q3), .second, .val (.int p4), .val (.int p5), .val (.int p6), .val (.int (2 : Int32)), .val (.ref b142), .val (.ref b149), .val (.int vv), .val (.int kk), .val (.int bb), .val (.int ee), .val (.long ww), .second] [(.int (1 : Int32))])) (fun t k => ?_) ?_
        · show Steps p.tables e below (T160.setTop (mkF m 155 #[.val (.long q1), .second, .val (.long q2), .second, .val (.long q3), .second, .val (.int p4), .val (.int p5), .val (.int p6), .val (.int (2 : Int32)), .val (.ref b142), .val (.ref b149), .val (.int vv), .val (.int kk), .val (.int bb), .val (.int ee), .val (.long ww), .second] [(.int (own_has vv (2 : Int32) ww))])) _
          refine XS.iload X160.here hx rfl (hb hby at_155) rfl ?_
          show Steps p.tables e below (T160.setTop (mkF m 157 #[.val (.long q1), .second, .val (.long q2), .second, .val (.long q3), .second, .val (.int p4), .val (.int p5), .val (.int p6), .val (.int (2 : Int32)), .val (.ref b142), .val (.ref b149), .val (.int vv), .val (.int kk), .val (.int bb), .val (.int ee), .val (.long ww), .second] [(.int ee), (.int (own_has vv (2 : Int32) ww))])) _
          refine XS.icmpNo X160.here hx rfl (hb hby at_157) rfl (teq ((own_hasB vv (2 : Int32) kk bb ww hb_v hkw.1 hv_bb hz0).trans hv_ee)).2 ?_
          show Steps p.tables e below (T160.setTop (mkF m 160 #[.val (.long q1), .second, .val (.long q2), .second, .val (.long q3), .second, .val (.int p4), .val (.int p5), .val (.int p6), .val (.int (2 : Int32)), .val (.ref b142), .val (.ref b149), .val (.int vv), .val (.int kk), .val (.int bb), .val (.int ee), .val (.long ww), .second] [])) _
          refine XS.iconst X160.here hx rfl (hb hby at_160) ?_
          show Steps p.tables e below (T160.setTop (mkF m 161 #[.val (.long q1), .second, .val (.long q2), .second, .val (.long q3), .second, .val (.int p4), .val (.int p5), .val (.int p6), .val (.int (2 : Int32)), .val (.ref b142), .val (.ref b149), .val (.int vv), .val (.int kk), .val (.int bb), .val (.int ee), .val (.long ww), .second] [(.int (1 : Int32))])) _
          refine XS.goto X160.here hx rfl (pc0 := 161) (pc' := 165) rfl (hb hby at_161) (by decide) (by decide) ?_
          show Steps p.tables e below (T160.setTop (mkF m 165 #[.val (.long q1), .second, .val (.long q2), .second, .val (.long q3), .second, .val (.int p4), .val (.int p5), .val (.int p6), .val (.int (2 : Int32)), .val (.ref b142), .val (.ref b149), .val (.int vv), .val (.int kk), .val (.int bb), .val (.int ee), .val (.long ww), .second] [(.int (1 : Int32))])) _
          exact k
        refine EndsQ.retN X160 hx Bd.notSynchronized (t := .boolean) Bd.returns (by simp) (hb hby at_165) (by decide) (by decide) ?_
        show Q0 Z q1 q2 q3 p4 p5 p6 h0 n0 (some (.int (nar .boolean (1 : Int32)))) T160.heap _
        rw [eq160]
        exact ⟨rfl, N160⟩
      · refine EndsQ.go (b := T153.setTop (mkF m 100 #[.val (.long q1), .second, .val (.long q2), .second, .val (.long q3), .second, .val (.int p4), .val (.int p5), .val (.int p6), .val (.int (2 : Int32)), .val (.ref b142), .val (.ref b149), .val (.int vv), .val (.int kk), .val (.int bb), .unset, .unset, .unset] [])) (fun t k => ?_) ?_
        · show Steps p.tables e below (T153.setTop (mkF m 97 #[.val (.long q1), .second, .val (.long q2), .second, .val (.long q3), .second, .val (.int p4), .val (.int p5), .val (.int p6), .val (.int (2 : Int32)), .val (.ref b142), .val (.ref b149), .val (.int vv), .val (.int kk), .val (.int bb), .unset, .unset, .unset] [(.int (2 : Int32)), (.int kk)])) _
          refine XS.icmpNo X153.here hx rfl (hb hby at_97) rfl (flt hc97_156).1 ?_
          show Steps p.tables e below (T153.setTop (mkF m 100 #[.val (.long q1), .second, .val (.long q2), .second, .val (.long q3), .second, .val (.int p4), .val (.int p5), .val (.int p6), .val (.int (2 : Int32)), .val (.ref b142), .val (.ref b149), .val (.int vv), .val (.int kk), .val (.int bb), .unset, .unset, .unset] [])) _
          exact k
        refine EndsQ.go (b := T153.setTop (mkF m 152 #[.val (.long q1), .second, .val (.long q2), .second, .val (.long q3), .second, .val (.int p4), .val (.int p5), .val (.int p6), .val (.int (2 : Int32)), .val (.ref b142), .val (.ref b149), .val (.int vv), .val (.int kk), .val (.int bb), .val (.int (0 : Int32)), .unset, .unset] [(.int vv), (.ref b149)])) (fun t k => ?_) ?_
        · show Steps p.tables e below (T153.setTop (mkF m 100 #[.val (.long q1), .second, .val (.long q2), .second, .val (.long q3), .second, .val (.int p4), .val (.int p5), .val (.int p6), .val (.int (2 : Int32)), .val (.ref b142), .val (.ref b149), .val (.int vv), .val (.int kk), .val (.int bb), .unset, .unset, .unset] [])) _
          refine XS.iconst X153.here hx rfl (hb hby at_100) ?_
          show Steps p.tables e below (T153.setTop (mkF m 101 #[.val (.long q1), .second, .val (.long q2), .second, .val (.long q3), .second, .val (.int p4), .val (.int p5), .val (.int p6), .val (.int (2 : Int32)), .val (.ref b142), .val (.ref b149), .val (.int vv), .val (.int kk), .val (.int bb), .unset, .unset, .unset] [(.int (0 : Int32))])) _
          refine XS.istore X153.here hx rfl (hb hby at_101) rfl (l' := #[.val (.long q1), .second, .val (.long q2), .second, .val (.long q3), .second, .val (.int p4), .val (.int p5), .val (.int p6), .val (.int (2 : Int32)), .val (.ref b142), .val (.ref b149), .val (.int vv), .val (.int kk), .val (.int bb), .val (.int (0 : Int32)), .unset, .unset]) rfl ?_
          show Steps p.tables e below (T153.setTop (mkF m 103 #[.val (.long q1), .second, .val (.long q2), .second, .val (.long q3), .second, .val (.int p4), .val (.int p5), .val (.int p6), .val (.int (2 : Int32)), .val (.ref b142), .val (.ref b149), .val (.int vv), .val (.int kk), .val (.int bb), .val (.int (0 : Int32)), .unset, .unset] [])) _
          refine XS.goto X153.here hx rfl (pc0 := 103) (pc' := 148) rfl (hb hby at_103) (by decide) (by decide) ?_
          show Steps p.tables e below (T153.setTop (mkF m 148 #[.val (.long q1), .second, .val (.long q2), .second, .val (.long q3), .second, .val (.int p4), .val (.int p5), .val (.int p6), .val (.int (2 : Int32)), .val (.ref b142), .val (.ref b149), .val (.int vv), .val (.int kk), .val (.int bb), .val (.int (0 : Int32)), .unset, .unset] [])) _
          refine XS.aload X153.here hx rfl (hb hby at_148) rfl rfl ?_
          show Steps p.tables e below (T153.setTop (mkF m 150 #[.val (.long q1), .second, .val (.long q2), .second, .val (.long q3), .second, .val (.int p4), .val (.int p5), .val (.int p6), .val (.int (2 : Int32)), .val (.ref b142), .val (.ref b149), .val (.int vv), .val (.int kk), .val (.int bb), .val (.int (0 : Int32)), .unset, .unset] [(.ref b149)])) _
          refine XS.iload X153.here hx rfl (hb hby at_150) rfl ?_
          show Steps p.tables e below (T153.setTop (mkF m 152 #[.val (.long q1), .second, .val (.long q2), .second, .val (.long q3), .second, .val (.int p4), .val (.int p5), .val (.int p6), .val (.int (2 : Int32)), .val (.ref b142), .val (.ref b149), .val (.int vv), .val (.int kk), .val (.int bb), .val (.int (0 : Int32)), .unset, .unset] [(.int vv), (.ref b149)])) _
          exact k
        obtain ⟨cq161, kq161, qa161, qb161, qc161⟩ := isOf hZ rfl Ex153
        obtain ⟨_, _, ⟨T161, L161, kk161, nn161⟩, -, X161, ⟨Lc161, hQ161, l161, y161, z161⟩, st161⟩ := X153.virtualBack hx (y := (⟨"com/example/sextant/sextant/ValueSet", "contains", "(I)Z"⟩ : MethodName)) (z := (⟨"com/example/sextant/sextant/ValueSet", "contains", "(I)Z"⟩ : MethodName)) hown (mvT hZ (hw _ (List.mem_of_getElem? (i := 13) rfl))) (mvT hZ (hw _ (List.mem_of_getElem? (i := 14) rfl))) (notFace_of_selects (args := #[]) (mvT hZ (hw _ (List.mem_of_getElem? (i := 16) rfl)))) (mvT hZ (hw _ (List.mem_of_getElem? (i := 16) rfl))) (mvT hZ (hw _ (List.mem_of_getElem? (i := 15) rfl))) (by decide) (backOf (W := 0) (rm3 l Z a0 hw [] b149 vv c153 kc153 (2 : Int32) [(.long q1), (.long q2)] (0 : Int64) T153.heap n0 f154 Fx153 Vx153 (fun hlt => absurd hlt (by rw [hkw.1]; exact own_mono kk (2 : Int32) (2 : Int32) hc97_156 (by decide)))) hZ (hw _ (List.mem_of_getElem? (i := 17) rfl)) (hw _ (List.mem_of_getElem? (i := 3) rfl)) (by decide) (by decide)) qa161 qc161 (g := (mkF m 152 #[.val (.long q1), .second, .val (.long q2), .second, .val (.long q3), .second, .val (.int p4), .val (.int p5), .val (.int p6), .val (.int (2 : Int32)), .val (.ref b142), .val (.ref b149), .val (.int vv), .val (.int kk), .val (.int bb), .val (.int (0 : Int32)), .unset, .unset] [(.int vv), (.ref b149)])) rfl (by rw [hml]; rfl) (Steps.refl _) (argsL := [(.int vv)]) (rest := []) (lenOf pd_3 rfl) rfl (by show 2 * 0 + _ ≤ _; exact Nat.le_of_eq rfl) (hb hby at_152) (fun _ _ => ⟨rfl, rfl, (by decide : 3 + 0 ≤ _), (by decide : 5 + 0 ≤ _)⟩)
        dsimp only [Pt.U, Pt.locs, Pt.cells, Pt.slots] at X161 l161 y161 z161 st161 hQ161
        subst l161 y161 z161
        obtain ⟨rfl, Nq161, eq161⟩ := hQ161
        have N161 := Fr.app N153 Nq161
        refine EndsQ.go (fun t k => st161.trans k) ?_
        show EndsQ _ _ _ _ _ _ _ (T161.setTop (mkF m 155 #[.val (.long q1), .second, .val (.long q2), .second, .val (.long q3), .second, .val (.int p4), .val (.int p5), .val (.int p6), .val (.int (2 : Int32)), .val (.ref b142), .val (.ref b149), .val (.int vv), .val (.int kk), .val (.int bb), .val (.int (0 : Int32)), .unset, .unset] [(.int (own_has vv (2 : Int32) (0 : Int64)))]))
        refine EndsQ.go (b := T161.setTop (mkF m 165 #[.val (.long q1), .second, .val (.long q2), .second, .val (.long q3), .second, .val (.int p4), .val (.int p5), .val (.int p6), .val (.int (2 : Int32)), .val (.ref b142), .val (.ref b149), .val (.int vv), .val (.int kk), .val (.int bb), .val (.int (0 : Int32)), .unset, .unset] [(.int (1 : Int32))])) (fun t k => ?_) ?_
        · show Steps p.tables e below (T161.setTop (mkF m 155 #[.val (.long q1), .second, .val (.long q2), .second, .val (.long q3), .second, .val (.int p4), .val (.int p5), .val (.int p6), .val (.int (2 : Int32)), .val (.ref b142), .val (.ref b149), .val (.int vv), .val (.int kk), .val (.int bb), .val (.int (0 : Int32)), .unset, .unset] [(.int (own_has vv (2 : Int32) (0 : Int64)))])) _
          refine XS.iload X161.here hx rfl (hb hby at_155) rfl ?_
          show Steps p.tables e below (T161.setTop (mkF m 157 #[.val (.long q1), .second, .val (.long q2), .second, .val (.long q3), .second, .val (.int p4), .val (.int p5), .val (.int p6), .val (.int (2 : Int32)), .val (.ref b142), .val (.ref b149), .val (.int vv), .val (.int kk), .val (.int bb), .val (.int (0 : Int32)), .unset, .unset] [(.int (0 : Int32)), (.int (own_has vv (2 : Int32) (0 : Int64)))])) _
          refine XS.icmpNo X161.here hx rfl (hb hby at_157) rfl (teq (own_hasA vv (2 : Int32) kk (0 : Int64) hkw.1 (own_mono kk (2 : Int32) (2 : Int32) hc97_156 (by decide)))).2 ?_
          show Steps p.tables e below (T161.setTop (mkF m 160 #[.val (.long q1), .second, .val (.long q2), .second, .val (.long q3), .second, .val (.int p4), .val (.int p5), .val (.int p6), .val (.int (2 : Int32)), .val (.ref b142), .val (.ref b149), .val (.int vv), .val (.int kk), .val (.int bb), .val (.int (0 : Int32)), .unset, .unset] [])) _
          refine XS.iconst X161.here hx rfl (hb hby at_160) ?_
          show Steps p.tables e below (T161.setTop (mkF m 161 #[.val (.long q1), .second, .val (.long q2), .second, .val (.long q3), .second, .val (.int p4), .val (.int p5), .val (.int p6), .val (.int (2 : Int32)), .val (.ref b142), .val (.ref b149), .val (.int vv), .val (.int kk), .val (.int bb), .val (.int (0 : Int32)), .unset, .unset] [(.int (1 : Int32))])) _
          refine XS.goto X161.here hx rfl (pc0 := 161) (pc' := 165) rfl (hb hby at_161) (by decide) (by decide) ?_
          show Steps p.tables e below (T161.setTop (mkF m 165 #[.val (.long q1), .second, .val (.long q2), .second, .val (.long q3), .second, .val (.int p4), .val (.int p5), .val (.int p6), .val (.int (2 : Int32)), .val (.ref b142), .val (.ref b149), .val (.int vv), .val (.int kk), .val (.int bb), .val (.int (0 : Int32)), .unset, .unset] [(.int (1 : Int32))])) _
          exact k
        refine EndsQ.retN X161 hx Bd.notSynchronized (t := .boolean) Bd.returns (by simp) (hb hby at_165) (by decide) (by decide) ?_
        show Q0 Z q1 q2 q3 p4 p5 p6 h0 n0 (some (.int (nar .boolean (1 : Int32)))) T161.heap _
        rw [eq161]
        exact ⟨rfl, N161⟩
    · have ht1 := trivial
      refine EndsQ.go (b := T153.setTop (mkF m 60 #[.val (.long q1), .second, .val (.long q2), .second, .val (.long q3), .second, .val (.int p4), .val (.int p5), .val (.int p6), .val (.int (2 : Int32)), .val (.ref b142), .val (.ref b149), .unset, .unset, .unset, .unset, .unset, .unset] [(.int (p6 &&& (1 : Int32)))])) (fun t k => ?_) ?_
      · show Steps p.tables e below (T153.setTop (mkF m 54 #[.val (.long q1), .second, .val (.long q2), .second, .val (.long q3), .second, .val (.int p4), .val (.int p5), .val (.int p6), .val (.int (2 : Int32)), .val (.ref b142), .unset, .unset, .unset, .unset, .unset, .unset, .unset] [(.ref b149)])) _
        refine XS.astore X153.here hx rfl (hb hby at_54) rfl rfl (l' := #[.val (.long q1), .second, .val (.long q2), .second, .val (.long q3), .second, .val (.int p4), .val (.int p5), .val (.int p6), .val (.int (2 : Int32)), .val (.ref b142), .val (.ref b149), .unset, .unset, .unset, .unset, .unset, .unset]) rfl ?_
        show Steps p.tables e below (T153.setTop (mkF m 56 #[.val (.long q1), .second, .val (.long q2), .second, .val (.long q3), .second, .val (.int p4), .val (.int p5), .val (.int p6), .val (.int (2 : Int32)), .val (.ref b142), .val (.ref b149), .unset, .unset, .unset, .unset, .unset, .unset] [])) _
        refine XS.iload X153.here hx rfl (hb hby at_56) rfl ?_
        show Steps p.tables e below (T153.setTop (mkF m 58 #[.val (.long q1), .second, .val (.long q2), .second, .val (.long q3), .second, .val (.int p4), .val (.int p5), .val (.int p6), .val (.int (2 : Int32)), .val (.ref b142), .val (.ref b149), .unset, .unset, .unset, .unset, .unset, .unset] [(.int p6)])) _
        refine XS.iconst X153.here hx rfl (hb hby at_58) ?_
        show Steps p.tables e below (T153.setTop (mkF m 59 #[.val (.long q1), .second, .val (.long q2), .second, .val (.long q3), .second, .val (.int p4), .val (.int p5), .val (.int p6), .val (.int (2 : Int32)), .val (.ref b142), .val (.ref b149), .unset, .unset, .unset, .unset, .unset, .unset] [(.int (1 : Int32)), (.int p6)])) _
        refine XS.iand X153.here hx rfl (hb hby at_59) rfl ?_
        show Steps p.tables e below (T153.setTop (mkF m 60 #[.val (.long q1), .second, .val (.long q2), .second, .val (.long q3), .second, .val (.int p4), .val (.int p5), .val (.int p6), .val (.int (2 : Int32)), .val (.ref b142), .val (.ref b149), .unset, .unset, .unset, .unset, .unset, .unset] [(.int (p6 &&& (1 : Int32)))])) _
        exact k
      refine EndsQ.go (b := T153.setTop (mkF m 77 #[.val (.long q1), .second, .val (.long q2), .second, .val (.long q3), .second, .val (.int p4), .val (.int p5), .val (.int p6), .val (.int (2 : Int32)), .val (.ref b142), .val (.ref b149), .unset, .unset, .unset, .unset, .unset, .unset] [(.int (if (p6 &&& (1 : Int32)) = (0 : Int32) then (p5 &&& (255 : Int32)) else (p5 &&& (2147483647 : Int32))))])) (fun t k => ?_) ?_
      · by_cases hc60_162 : (p6 &&& (1 : Int32)) = (0 : Int32)
        · refine XS.ifYes X153.here hx rfl (pc0 := 60) (pc' := 71) rfl (hb hby at_60) rfl ((if0 _ _).trans (teq hc60_162).1) (by decide) (by decide) ?_
          show Steps p.tables e below (T153.setTop (mkF m 71 #[.val (.long q1), .second, .val (.long q2), .second, .val (.long q3), .second, .val (.int p4), .val (.int p5), .val (.int p6), .val (.int (2 : Int32)), .val (.ref b142), .val (.ref b149), .unset, .unset, .unset, .unset, .unset, .unset] [])) _
          refine XS.iload X153.here hx rfl (hb hby at_71) rfl ?_
          show Steps p.tables e below (T153.setTop (mkF m 73 #[.val (.long q1), .second, .val (.long q2), .second, .val (.long q3), .second, .val (.int p4), .val (.int p5), .val (.int p6), .val (.int (2 : Int32)), .val (.ref b142), .val (.ref b149), .unset, .unset, .unset, .unset, .unset, .unset] [(.int p5)])) _
          refine XS.sipush X153.here hx rfl (hb hby at_73) ?_
          show Steps p.tables e below (T153.setTop (mkF m 76 #[.val (.long q1), .second, .val (.long q2), .second, .val (.long q3), .second, .val (.int p4), .val (.int p5), .val (.int p6), .val (.int (2 : Int32)), .val (.ref b142), .val (.ref b149), .unset, .unset, .unset, .unset, .unset, .unset] [(.int (255 : Int32)), (.int p5)])) _
          refine XS.iand X153.here hx rfl (hb hby at_76) rfl ?_
          show Steps p.tables e below (T153.setTop (mkF m 77 #[.val (.long q1), .second, .val (.long q2), .second, .val (.long q3), .second, .val (.int p4), .val (.int p5), .val (.int p6), .val (.int (2 : Int32)), .val (.ref b142), .val (.ref b149), .unset, .unset, .unset, .unset, .unset, .unset] [(.int (p5 &&& (255 : Int32)))])) _
          have j0 : (if (p6 &&& (1 : Int32)) = (0 : Int32) then (p5 &&& (255 : Int32)) else (p5 &&& (2147483647 : Int32))) = (p5 &&& (255 : Int32)) := by rw [if_pos hc60_162]
          rw [j0] at k
          exact k
        · refine XS.ifNo X153.here hx rfl (hb hby at_60) rfl ((if0 _ _).trans (feq hc60_162).1) ?_
          show Steps p.tables e below (T153.setTop (mkF m 63 #[.val (.long q1), .second, .val (.long q2), .second, .val (.long q3), .second, .val (.int p4), .val (.int p5), .val (.int p6), .val (.int (2 : Int32)), .val (.ref b142), .val (.ref b149), .unset, .unset, .unset, .unset, .unset, .unset] [])) _
          refine XS.iload X153.here hx rfl (hb hby at_63) rfl ?_
          show Steps p.tables e below (T153.setTop (mkF m 65 #[.val (.long q1), .second, .val (.long q2), .second, .val (.long q3), .second, .val (.int p4), .val (.int p5), .val (.int p6), .val (.int (2 : Int32)), .val (.ref b142), .val (.ref b149), .unset, .unset, .unset, .unset, .unset, .unset] [(.int p5)])) _
          refine X153.ldcInt hx hown (mvT hZ (hw _ (List.mem_of_getElem? (i := 12) rfl))) (g := (mkF m 65 #[.val (.long q1), .second, .val (.long q2), .second, .val (.long q3), .second, .val (.int p4), .val (.int p5), .val (.int p6), .val (.int (2 : Int32)), .val (.ref b142), .val (.ref b149), .unset, .unset, .unset, .unset, .unset, .unset] [(.int p5)])) rfl (hb hby at_65) _ ?_
          show Steps p.tables e below (T153.setTop (mkF m 67 #[.val (.long q1), .second, .val (.long q2), .second, .val (.long q3), .second, .val (.int p4), .val (.int p5), .val (.int p6), .val (.int (2 : Int32)), .val (.ref b142), .val (.ref b149), .unset, .unset, .unset, .unset, .unset, .unset] [(.int (2147483647 : Int32)), (.int p5)])) _
          refine XS.iand X153.here hx rfl (hb hby at_67) rfl ?_
          show Steps p.tables e below (T153.setTop (mkF m 68 #[.val (.long q1), .second, .val (.long q2), .second, .val (.long q3), .second, .val (.int p4), .val (.int p5), .val (.int p6), .val (.int (2 : Int32)), .val (.ref b142), .val (.ref b149), .unset, .unset, .unset, .unset, .unset, .unset] [(.int (p5 &&& (2147483647 : Int32)))])) _
          refine XS.goto X153.here hx rfl (pc0 := 68) (pc' := 77) rfl (hb hby at_68) (by decide) (by decide) ?_
          show Steps p.tables e below (T153.setTop (mkF m 77 #[.val (.long q1), .second, .val (.long q2), .second, .val (.long q3), .second, .val (.int p4), .val (.int p5), .val (.int p6), .val (.int (2 : Int32)), .val (.ref b142), .val (.ref b149), .unset, .unset, .unset, .unset, .unset, .unset] [(.int (p5 &&& (2147483647 : Int32)))])) _
          have j0 : (if (p6 &&& (1 : Int32)) = (0 : Int32) then (p5 &&& (255 : Int32)) else (p5 &&& (2147483647 : Int32))) = (p5 &&& (2147483647 : Int32)) := by rw [if_neg hc60_162]
          rw [j0] at k
          exact k
      generalize hv_vv : (if (p6 &&& (1 : Int32)) = (0 : Int32) then (p5 &&& (255 : Int32)) else (p5 &&& (2147483647 : Int32))) = vv
      have hb_v : 0 ≤ vv.toInt := by rw [← hv_vv]; exact own_v p5 p6
      have hkw := own_kw vv hb_v
      show EndsQ _ _ _ _ _ _ _ (T153.setTop (mkF m 77 #[.val (.long q1), .second, .val (.long q2), .second, .val (.long q3), .second, .val (.int p4), .val (.int p5), .val (.int p6), .val (.int (2 : Int32)), .val (.ref b142), .val (.ref b149), .unset, .unset, .unset, .unset, .unset, .unset] [(.int vv)]))
      refine EndsQ.go (b := T153.setTop (mkF m 86 #[.val (.long q1), .second, .val (.long q2), .second, .val (.long q3), .second, .val (.int p4), .val (.int p5), .val (.int p6), .val (.int (2 : Int32)), .val (.ref b142), .val (.ref b149), .val (.int vv), .val (.int (vv / (64 : Int32))), .unset, .unset, .unset, .unset] [])) (fun t k => ?_) ?_
      · show Steps p.tables e below (T153.setTop (mkF m 77 #[.val (.long q1), .second, .val (.long q2), .second, .val (.long q3), .second, .val (.int p4), .val (.int p5), .val (.int p6), .val (.int (2 : Int32)), .val (.ref b142), .val (.ref b149), .unset, .unset, .unset, .unset, .unset, .unset] [(.int vv)])) _
        refine XS.istore X153.here hx rfl (hb hby at_77) rfl (l' := #[.val (.long q1), .second, .val (.long q2), .second, .val (.long q3), .second, .val (.int p4), .val (.int p5), .val (.int p6), .val (.int (2 : Int32)), .val (.ref b142), .val (.ref b149), .val (.int vv), .unset, .unset, .unset, .unset, .unset]) rfl ?_
        show Steps p.tables e below (T153.setTop (mkF m 79 #[.val (.long q1), .second, .val (.long q2), .second, .val (.long q3), .second, .val (.int p4), .val (.int p5), .val (.int p6), .val (.int (2 : Int32)), .val (.ref b142), .val (.ref b149), .val (.int vv), .unset, .unset, .unset, .unset, .unset] [])) _
        refine XS.iload X153.here hx rfl (hb hby at_79) rfl ?_
        show Steps p.tables e below (T153.setTop (mkF m 81 #[.val (.long q1), .second, .val (.long q2), .second, .val (.long q3), .second, .val (.int p4), .val (.int p5), .val (.int p6), .val (.int (2 : Int32)), .val (.ref b142), .val (.ref b149), .val (.int vv), .unset, .unset, .unset, .unset, .unset] [(.int vv)])) _
        refine XS.bipush X153.here hx rfl (hb hby at_81) ?_
        show Steps p.tables e below (T153.setTop (mkF m 83 #[.val (.long q1), .second, .val (.long q2), .second, .val (.long q3), .second, .val (.int p4), .val (.int p5), .val (.int p6), .val (.int (2 : Int32)), .val (.ref b142), .val (.ref b149), .val (.int vv), .unset, .unset, .unset, .unset, .unset] [(.int (64 : Int32)), (.int vv)])) _
        refine XS.idiv X153.here hx rfl (hb hby at_83) rfl (by decide) ?_
        show Steps p.tables e below (T153.setTop (mkF m 84 #[.val (.long q1), .second, .val (.long q2), .second, .val (.long q3), .second, .val (.int p4), .val (.int p5), .val (.int p6), .val (.int (2 : Int32)), .val (.ref b142), .val (.ref b149), .val (.int vv), .unset, .unset, .unset, .unset, .unset] [(.int (vv / (64 : Int32)))])) _
        refine XS.istore X153.here hx rfl (hb hby at_84) rfl (l' := #[.val (.long q1), .second, .val (.long q2), .second, .val (.long q3), .second, .val (.int p4), .val (.int p5), .val (.int p6), .val (.int (2 : Int32)), .val (.ref b142), .val (.ref b149), .val (.int vv), .val (.int (vv / (64 : Int32))), .unset, .unset, .unset, .unset]) rfl ?_
        show Steps p.tables e below (T153.setTop (mkF m 86 #[.val (.long q1), .second, .val (.long q2), .second, .val (.long q3), .second, .val (.int p4), .val (.int p5), .val (.int p6), .val (.int (2 : Int32)), .val (.ref b142), .val (.ref b149), .val (.int vv), .val (.int (vv / (64 : Int32))), .unset, .unset, .unset, .unset] [])) _
        exact k
      generalize hv_kk : (vv / (64 : Int32)) = kk
      rw [hv_kk] at hkw
      show EndsQ _ _ _ _ _ _ _ (T153.setTop (mkF m 86 #[.val (.long q1), .second, .val (.long q2), .second, .val (.long q3), .second, .val (.int p4), .val (.int p5), .val (.int p6), .val (.int (2 : Int32)), .val (.ref b142), .val (.ref b149), .val (.int vv), .val (.int kk), .unset, .unset, .unset, .unset] []))
      refine EndsQ.go (b := T153.setTop (mkF m 93 #[.val (.long q1), .second, .val (.long q2), .second, .val (.long q3), .second, .val (.int p4), .val (.int p5), .val (.int p6), .val (.int (2 : Int32)), .val (.ref b142), .val (.ref b149), .val (.int vv), .val (.int kk), .val (.int (vv % (64 : Int32))), .unset, .unset, .unset] [])) (fun t k => ?_) ?_
      · show Steps p.tables e below (T153.setTop (mkF m 86 #[.val (.long q1), .second, .val (.long q2), .second, .val (.long q3), .second, .val (.int p4), .val (.int p5), .val (.int p6), .val (.int (2 : Int32)), .val (.ref b142), .val (.ref b149), .val (.int vv), .val (.int kk), .unset, .unset, .unset, .unset] [])) _
        refine XS.iload X153.here hx rfl (hb hby at_86) rfl ?_
        show Steps p.tables e below (T153.setTop (mkF m 88 #[.val (.long q1), .second, .val (.long q2), .second, .val (.long q3), .second, .val (.int p4), .val (.int p5), .val (.int p6), .val (.int (2 : Int32)), .val (.ref b142), .val (.ref b149), .val (.int vv), .val (.int kk), .unset, .unset, .unset, .unset] [(.int vv)])) _
        refine XS.bipush X153.here hx rfl (hb hby at_88) ?_
        show Steps p.tables e below (T153.setTop (mkF m 90 #[.val (.long q1), .second, .val (.long q2), .second, .val (.long q3), .second, .val (.int p4), .val (.int p5), .val (.int p6), .val (.int (2 : Int32)), .val (.ref b142), .val (.ref b149), .val (.int vv), .val (.int kk), .unset, .unset, .unset, .unset] [(.int (64 : Int32)), (.int vv)])) _
        refine iremM X153 hx rfl (hb hby at_90) rfl (by decide) ?_
        show Steps p.tables e below (T153.setTop (mkF m 91 #[.val (.long q1), .second, .val (.long q2), .second, .val (.long q3), .second, .val (.int p4), .val (.int p5), .val (.int p6), .val (.int (2 : Int32)), .val (.ref b142), .val (.ref b149), .val (.int vv), .val (.int kk), .unset, .unset, .unset, .unset] [(.int (vv % (64 : Int32)))])) _
        refine XS.istore X153.here hx rfl (hb hby at_91) rfl (l' := #[.val (.long q1), .second, .val (.long q2), .second, .val (.long q3), .second, .val (.int p4), .val (.int p5), .val (.int p6), .val (.int (2 : Int32)), .val (.ref b142), .val (.ref b149), .val (.int vv), .val (.int kk), .val (.int (vv % (64 : Int32))), .unset, .unset, .unset]) rfl ?_
        show Steps p.tables e below (T153.setTop (mkF m 93 #[.val (.long q1), .second, .val (.long q2), .second, .val (.long q3), .second, .val (.int p4), .val (.int p5), .val (.int p6), .val (.int (2 : Int32)), .val (.ref b142), .val (.ref b149), .val (.int vv), .val (.int kk), .val (.int (vv % (64 : Int32))), .unset, .unset, .unset] [])) _
        exact k
      generalize hv_bb : (vv % (64 : Int32)) = bb
      show EndsQ _ _ _ _ _ _ _ (T153.setTop (mkF m 93 #[.val (.long q1), .second, .val (.long q2), .second, .val (.long q3), .second, .val (.int p4), .val (.int p5), .val (.int p6), .val (.int (2 : Int32)), .val (.ref b142), .val (.ref b149), .val (.int vv), .val (.int kk), .val (.int bb), .unset, .unset, .unset] []))
      refine EndsQ.go (b := T153.setTop (mkF m 97 #[.val (.long q1), .second, .val (.long q2), .second, .val (.long q3), .second, .val (.int p4), .val (.int p5), .val (.int p6), .val (.int (2 : Int32)), .val (.ref b142), .val (.ref b149), .val (.int vv), .val (.int kk), .val (.int bb), .unset, .unset, .unset] [(.int (2 : Int32)), (.int kk)])) (fun t k => ?_) ?_
      · show Steps p.tables e below (T153.setTop (mkF m 93 #[.val (.long q1), .second, .val (.long q2), .second, .val (.long q3), .second, .val (.int p4), .val (.int p5), .val (.int p6), .val (.int (2 : Int32)), .val (.ref b142), .val (.ref b149), .val (.int vv), .val (.int kk), .val (.int bb), .unset, .unset, .unset] [])) _
        refine XS.iload X153.here hx rfl (hb hby at_93) rfl ?_
        show Steps p.tables e below (T153.setTop (mkF m 95 #[.val (.long q1), .second, .val (.long q2), .second, .val (.long q3), .second, .val (.int p4), .val (.int p5), .val (.int p6), .val (.int (2 : Int32)), .val (.ref b142), .val (.ref b149), .val (.int vv), .val (.int kk), .val (.int bb), .unset, .unset, .unset] [(.int kk)])) _
        refine XS.iload X153.here hx rfl (hb hby at_95) rfl ?_
        show Steps p.tables e below (T153.setTop (mkF m 97 #[.val (.long q1), .second, .val (.long q2), .second, .val (.long q3), .second, .val (.int p4), .val (.int p5), .val (.int p6), .val (.int (2 : Int32)), .val (.ref b142), .val (.ref b149), .val (.int vv), .val (.int kk), .val (.int bb), .unset, .unset, .unset] [(.int (2 : Int32)), (.int kk)])) _
        exact k
      by_cases hc97_163 : kk < (2 : Int32)
      · refine EndsQ.go (b := T153.setTop (mkF m 106 #[.val (.long q1), .second, .val (.long q2), .second, .val (.long q3), .second, .val (.int p4), .val (.int p5), .val (.int p6), .val (.int (2 : Int32)), .val (.ref b142), .val (.ref b149), .val (.int vv), .val (.int kk), .val (.int bb), .unset, .unset, .unset] [])) (fun t k => ?_) ?_
        · show Steps p.tables e below (T153.setTop (mkF m 97 #[.val (.long q1), .second, .val (.long q2), .second, .val (.long q3), .second, .val (.int p4), .val (.int p5), .val (.int p6), .val (.int (2 : Int32)), .val (.ref b142), .val (.ref b149), .val (.int vv), .val (.int kk), .val (.int bb), .unset, .unset, .unset] [(.int (2 : Int32)), (.int kk)])) _
          refine XS.icmpYes X153.here hx rfl (pc0 := 97) (pc' := 106) rfl (hb hby at_97) rfl (tlt hc97_163).1 (by decide) (by decide) ?_
          show Steps p.tables e below (T153.setTop (mkF m 106 #[.val (.long q1), .second, .val (.long q2), .second, .val (.long q3), .second, .val (.int p4), .val (.int p5), .val (.int p6), .val (.int (2 : Int32)), .val (.ref b142), .val (.ref b149), .val (.int vv), .val (.int kk), .val (.int bb), .unset, .unset, .unset] [])) _
          exact k
        refine EndsQ.go (b := T153.setTop (mkF m 108 #[.val (.long q1), .second, .val (.long q2), .second, .val (.long q3), .second, .val (.int p4), .val (.int p5), .val (.int p6), .val (.int (2 : Int32)), .val (.ref b142), .val (.ref b149), .val (.int vv), .val (.int kk), .val (.int bb), .unset, .unset, .unset] [(.int kk)])) (fun t k => ?_) ?_
        · show Steps p.tables e below (T153.setTop (mkF m 106 #[.val (.long q1), .second, .val (.long q2), .second, .val (.long q3), .second, .val (.int p4), .val (.int p5), .val (.int p6), .val (.int (2 : Int32)), .val (.ref b142), .val (.ref b149), .val (.int vv), .val (.int kk), .val (.int bb), .unset, .unset, .unset] [])) _
          refine XS.iload X153.here hx rfl (hb hby at_106) rfl ?_
          show Steps p.tables e below (T153.setTop (mkF m 108 #[.val (.long q1), .second, .val (.long q2), .second, .val (.long q3), .second, .val (.int p4), .val (.int p5), .val (.int p6), .val (.int (2 : Int32)), .val (.ref b142), .val (.ref b149), .val (.int vv), .val (.int kk), .val (.int bb), .unset, .unset, .unset] [(.int kk)])) _
          exact k
        refine EndsQ.go (b := T153.setTop (mkF m 127 #[.val (.long q1), .second, .val (.long q2), .second, .val (.long q3), .second, .val (.int p4), .val (.int p5), .val (.int p6), .val (.int (2 : Int32)), .val (.ref b142), .val (.ref b149), .val (.int vv), .val (.int kk), .val (.int bb), .unset, .unset, .unset] [(.long (if kk = (0 : Int32) then q1 else (if kk = (1 : Int32) then q2 else q3)))])) (fun t k => ?_) ?_
        · by_cases hc108_164 : kk = (0 : Int32)
          · refine XS.ifNo X153.here hx rfl (hb hby at_108) rfl ((if0 _ _).trans (teq hc108_164).2) ?_
            show Steps p.tables e below (T153.setTop (mkF m 111 #[.val (.long q1), .second, .val (.long q2), .second, .val (.long q3), .second, .val (.int p4), .val (.int p5), .val (.int p6), .val (.int (2 : Int32)), .val (.ref b142), .val (.ref b149), .val (.int vv), .val (.int kk), .val (.int bb), .unset, .unset, .unset] [])) _
            refine XS.lloadN X153.here hx rfl (hb hby at_111) rfl ?_
            show Steps p.tables e below (T153.setTop (mkF m 112 #[.val (.long q1), .second, .val (.long q2), .second, .val (.long q3), .second, .val (.int p4), .val (.int p5), .val (.int p6), .val (.int (2 : Int32)), .val (.ref b142), .val (.ref b149), .val (.int vv), .val (.int kk), .val (.int bb), .unset, .unset, .unset] [(.long q1)])) _
            refine XS.goto X153.here hx rfl (pc0 := 112) (pc' := 127) rfl (hb hby at_112) (by decide) (by decide) ?_
            show Steps p.tables e below (T153.setTop (mkF m 127 #[.val (.long q1), .second, .val (.long q2), .second, .val (.long q3), .second, .val (.int p4), .val (.int p5), .val (.int p6), .val (.int (2 : Int32)), .val (.ref b142), .val (.ref b149), .val (.int vv), .val (.int kk), .val (.int bb), .unset, .unset, .unset] [(.long q1)])) _
            have j0 : (if kk = (0 : Int32) then q1 else (if kk = (1 : Int32) then q2 else q3)) = q1 := by rw [if_pos hc108_164]
            rw [j0] at k
            exact k
          · refine XS.ifYes X153.here hx rfl (pc0 := 108) (pc' := 115) rfl (hb hby at_108) rfl ((if0 _ _).trans (feq hc108_164).2) (by decide) (by decide) ?_
            show Steps p.tables e below (T153.setTop (mkF m 115 #[.val (.long q1), .second, .val (.long q2), .second, .val (.long q3), .second, .val (.int p4), .val (.int p5), .val (.int p6), .val (.int (2 : Int32)), .val (.ref b142), .val (.ref b149), .val (.int vv), .val (.int kk), .val (.int bb), .unset, .unset, .unset] [])) _
            refine XS.iload X153.here hx rfl (hb hby at_115) rfl ?_
            show Steps p.tables e below (T153.setTop (mkF m 117 #[.val (.long q1), .second, .val (.long q2), .second, .val (.long q3), .second, .val (.int p4), .val (.int p5), .val (.int p6), .val (.int (2 : Int32)), .val (.ref b142), .val (.ref b149), .val (.int vv), .val (.int kk), .val (.int bb), .unset, .unset, .unset] [(.int kk)])) _
            refine XS.iconst X153.here hx rfl (hb hby at_117) ?_
            show Steps p.tables e below (T153.setTop (mkF m 118 #[.val (.long q1), .second, .val (.long q2), .second, .val (.long q3), .second, .val (.int p4), .val (.int p5), .val (.int p6), .val (.int (2 : Int32)), .val (.ref b142), .val (.ref b149), .val (.int vv), .val (.int kk), .val (.int bb), .unset, .unset, .unset] [(.int (1 : Int32)), (.int kk)])) _
            by_cases hc118_165 : kk = (1 : Int32)
            · refine XS.icmpNo X153.here hx rfl (hb hby at_118) rfl (teq hc118_165).2 ?_
              show Steps p.tables e below (T153.setTop (mkF m 121 #[.val (.long q1), .second, .val (.long q2), .second, .val (.long q3), .second, .val (.int p4), .val (.int p5), .val (.int p6), .val (.int (2 : Int32)), .val (.ref b142), .val (.ref b149), .val (.int vv), .val (.int kk), .val (.int bb), .unset, .unset, .unset] [])) _
              refine XS.lloadN X153.here hx rfl (hb hby at_121) rfl ?_
              show Steps p.tables e below (T153.setTop (mkF m 122 #[.val (.long q1), .second, .val (.long q2), .second, .val (.long q3), .second, .val (.int p4), .val (.int p5), .val (.int p6), .val (.int (2 : Int32)), .val (.ref b142), .val (.ref b149), .val (.int vv), .val (.int kk), .val (.int bb), .unset, .unset, .unset] [(.long q2)])) _
              refine XS.goto X153.here hx rfl (pc0 := 122) (pc' := 127) rfl (hb hby at_122) (by decide) (by decide) ?_
              show Steps p.tables e below (T153.setTop (mkF m 127 #[.val (.long q1), .second, .val (.long q2), .second, .val (.long q3), .second, .val (.int p4), .val (.int p5), .val (.int p6), .val (.int (2 : Int32)), .val (.ref b142), .val (.ref b149), .val (.int vv), .val (.int kk), .val (.int bb), .unset, .unset, .unset] [(.long q2)])) _
              have j0 : (if kk = (0 : Int32) then q1 else (if kk = (1 : Int32) then q2 else q3)) = q2 := by rw [if_neg hc108_164, if_pos hc118_165]
              rw [j0] at k
              exact k
            · refine XS.icmpYes X153.here hx rfl (pc0 := 118) (pc' := 125) rfl (hb hby at_118) rfl (feq hc118_165).2 (by decide) (by decide) ?_
              show Steps p.tables e below (T153.setTop (mkF m 125 #[.val (.long q1), .second, .val (.long q2), .second, .val (.long q3), .second, .val (.int p4), .val (.int p5), .val (.int p6), .val (.int (2 : Int32)), .val (.ref b142), .val (.ref b149), .val (.int vv), .val (.int kk), .val (.int bb), .unset, .unset, .unset] [])) _
              refine XS.lload X153.here hx rfl (hb hby at_125) rfl ?_
              show Steps p.tables e below (T153.setTop (mkF m 127 #[.val (.long q1), .second, .val (.long q2), .second, .val (.long q3), .second, .val (.int p4), .val (.int p5), .val (.int p6), .val (.int (2 : Int32)), .val (.ref b142), .val (.ref b149), .val (.int vv), .val (.int kk), .val (.int bb), .unset, .unset, .unset] [(.long q3)])) _
              have j0 : (if kk = (0 : Int32) then q1 else (if kk = (1 : Int32) then q2 else q3)) = q3 := by rw [if_neg hc108_164, if_neg hc118_165]
              rw [j0] at k
              exact k
        generalize hv_ww : (if kk = (0 : Int32) then q1 else (if kk = (1 : Int32) then q2 else q3)) = ww
        show EndsQ _ _ _ _ _ _ _ (T153.setTop (mkF m 127 #[.val (.long q1), .second, .val (.long q2), .second, .val (.long q3), .second, .val (.int p4), .val (.int p5), .val (.int p6), .val (.int (2 : Int32)), .val (.ref b142), .val (.ref b149), .val (.int vv), .val (.int kk), .val (.int bb), .unset, .unset, .unset] [(.long ww)]))
        refine EndsQ.go (b := T153.setTop (mkF m 138 #[.val (.long q1), .second, .val (.long q2), .second, .val (.long q3), .second, .val (.int p4), .val (.int p5), .val (.int p6), .val (.int (2 : Int32)), .val (.ref b142), .val (.ref b149), .val (.int vv), .val (.int kk), .val (.int bb), .unset, .val (.long ww), .second] [(.int (lcmpW (ww &&& ((1 : Int64) <<< (bb &&& 0x3f).toInt64)) (0 : Int64)))])) (fun t k => ?_) ?_
        · show Steps p.tables e below (T153.setTop (mkF m 127 #[.val (.long q1), .second, .val (.long q2), .second, .val (.long q3), .second, .val (.int p4), .val (.int p5), .val (.int p6), .val (.int (2 : Int32)), .val (.ref b142), .val (.ref b149), .val (.int vv), .val (.int kk), .val (.int bb), .unset, .unset, .unset] [(.long ww)])) _
          refine XS.lstore X153.here hx rfl (hb hby at_127) rfl (l' := #[.val (.long q1), .second, .val (.long q2), .second, .val (.long q3), .second, .val (.int p4), .val (.int p5), .val (.int p6), .val (.int (2 : Int32)), .val (.ref b142), .val (.ref b149), .val (.int vv), .val (.int kk), .val (.int bb), .unset, .val (.long ww), .second]) rfl ?_
          show Steps p.tables e below (T153.setTop (mkF m 129 #[.val (.long q1), .second, .val (.long q2), .second, .val (.long q3), .second, .val (.int p4), .val (.int p5), .val (.int p6), .val (.int (2 : Int32)), .val (.ref b142), .val (.ref b149), .val (.int vv), .val (.int kk), .val (.int bb), .unset, .val (.long ww), .second] [])) _
          refine XS.lload X153.here hx rfl (hb hby at_129) rfl ?_
          show Steps p.tables e below (T153.setTop (mkF m 131 #[.val (.long q1), .second, .val (.long q2), .second, .val (.long q3), .second, .val (.int p4), .val (.int p5), .val (.int p6), .val (.int (2 : Int32)), .val (.ref b142), .val (.ref b149), .val (.int vv), .val (.int kk), .val (.int bb), .unset, .val (.long ww), .second] [(.long ww)])) _
          refine XS.lconst X153.here hx rfl (hb hby at_131) ?_
          show Steps p.tables e below (T153.setTop (mkF m 132 #[.val (.long q1), .second, .val (.long q2), .second, .val (.long q3), .second, .val (.int p4), .val (.int p5), .val (.int p6), .val (.int (2 : Int32)), .val (.ref b142), .val (.ref b149), .val (.int vv), .val (.int kk), .val (.int bb), .unset, .val (.long ww), .second] [(.long (1 : Int64)), (.long ww)])) _
          refine XS.iload X153.here hx rfl (hb hby at_132) rfl ?_
          show Steps p.tables e below (T153.setTop (mkF m 134 #[.val (.long q1), .second, .val (.long q2), .second, .val (.long q3), .second, .val (.int p4), .val (.int p5), .val (.int p6), .val (.int (2 : Int32)), .val (.ref b142), .val (.ref b149), .val (.int vv), .val (.int kk), .val (.int bb), .unset, .val (.long ww), .second] [(.int bb), (.long (1 : Int64)), (.long ww)])) _
          refine XS.lshl X153.here hx rfl (hb hby at_134) rfl ?_
          show Steps p.tables e below (T153.setTop (mkF m 135 #[.val (.long q1), .second, .val (.long q2), .second, .val (.long q3), .second, .val (.int p4), .val (.int p5), .val (.int p6), .val (.int (2 : Int32)), .val (.ref b142), .val (.ref b149), .val (.int vv), .val (.int kk), .val (.int bb), .unset, .val (.long ww), .second] [(.long ((1 : Int64) <<< (bb &&& 0x3f).toInt64)), (.long ww)])) _
          refine XS.land X153.here hx rfl (hb hby at_135) rfl ?_
          show Steps p.tables e below (T153.setTop (mkF m 136 #[.val (.long q1), .second, .val (.long q2), .second, .val (.long q3), .second, .val (.int p4), .val (.int p5), .val (.int p6), .val (.int (2 : Int32)), .val (.ref b142), .val (.ref b149), .val (.int vv), .val (.int kk), .val (.int bb), .unset, .val (.long ww), .second] [(.long (ww &&& ((1 : Int64) <<< (bb &&& 0x3f).toInt64)))])) _
          refine XS.lconst X153.here hx rfl (hb hby at_136) ?_
          show Steps p.tables e below (T153.setTop (mkF m 137 #[.val (.long q1), .second, .val (.long q2), .second, .val (.long q3), .second, .val (.int p4), .val (.int p5), .val (.int p6), .val (.int (2 : Int32)), .val (.ref b142), .val (.ref b149), .val (.int vv), .val (.int kk), .val (.int bb), .unset, .val (.long ww), .second] [(.long (0 : Int64)), (.long (ww &&& ((1 : Int64) <<< (bb &&& 0x3f).toInt64)))])) _
          refine XS.lcmp X153.here hx rfl (hb hby at_137) rfl ?_
          show Steps p.tables e below (T153.setTop (mkF m 138 #[.val (.long q1), .second, .val (.long q2), .second, .val (.long q3), .second, .val (.int p4), .val (.int p5), .val (.int p6), .val (.int (2 : Int32)), .val (.ref b142), .val (.ref b149), .val (.int vv), .val (.int kk), .val (.int bb), .unset, .val (.long ww), .second] [(.int (lcmpW (ww &&& ((1 : Int64) <<< (bb &&& 0x3f).toInt64)) (0 : Int64)))])) _
          exact k
        refine EndsQ.go (b := T153.setTop (mkF m 146 #[.val (.long q1), .second, .val (.long q2), .second, .val (.long q3), .second, .val (.int p4), .val (.int p5), .val (.int p6), .val (.int (2 : Int32)), .val (.ref b142), .val (.ref b149), .val (.int vv), .val (.int kk), .val (.int bb), .unset, .val (.long ww), .second] [(.int (if (ww &&& ((1 : Int64) <<< (bb &&& 0x3f).toInt64)) = (0 : Int64) then (0 : Int32) else (1 : Int32)))])) (fun t k => ?_) ?_
        · by_cases hc138_166 : (ww &&& ((1 : Int64) <<< (bb &&& 0x3f).toInt64)) = (0 : Int64)
          · refine XS.ifYes X153.here hx rfl (pc0 := 138) (pc' := 145) rfl (hb hby at_138) rfl ((if0 _ _).trans (teq ((lw_eq (ww &&& ((1 : Int64) <<< (bb &&& 0x3f).toInt64)) (0 : Int64)).mpr hc138_166)).1) (by decide) (by decide) ?_
            show Steps p.tables e below (T153.setTop (mkF m 145 #[.val (.long q1), .second, .val (.long q2), .second, .val (.long q3), .second, .val (.int p4), .val (.int p5), .val (.int p6), .val (.int (2 : Int32)), .val (.ref b142), .val (.ref b149), .val (.int vv), .val (.int kk), .val (.int bb), .unset, .val (.long ww), .second] [])) _
            refine XS.iconst X153.here hx rfl (hb hby at_145) ?_
            show Steps p.tables e below (T153.setTop (mkF m 146 #[.val (.long q1), .second, .val (.long q2), .second, .val (.long q3), .second, .val (.int p4), .val (.int p5), .val (.int p6), .val (.int (2 : Int32)), .val (.ref b142), .val (.ref b149), .val (.int vv), .val (.int kk), .val (.int bb), .unset, .val (.long ww), .second] [(.int (0 : Int32))])) _
            have j0 : (if (ww &&& ((1 : Int64) <<< (bb &&& 0x3f).toInt64)) = (0 : Int64) then (0 : Int32) else (1 : Int32)) = (0 : Int32) := by rw [if_pos hc138_166]
            rw [j0] at k
            exact k
          · refine XS.ifNo X153.here hx rfl (hb hby at_138) rfl ((if0 _ _).trans (feq (fun q => hc138_166 ((lw_eq (ww &&& ((1 : Int64) <<< (bb &&& 0x3f).toInt64)) (0 : Int64)).mp q))).1) ?_
            show Steps p.tables e below (T153.setTop (mkF m 141 #[.val (.long q1), .second, .val (.long q2), .second, .val (.long q3), .second, .val (.int p4), .val (.int p5), .val (.int p6), .val (.int (2 : Int32)), .val (.ref b142), .val (.ref b149), .val (.int vv), .val (.int kk), .val (.int bb), .unset, .val (.long ww), .second] [])) _
            refine XS.iconst X153.here hx rfl (hb hby at_141) ?_
            show Steps p.tables e below (T153.setTop (mkF m 142 #[.val (.long q1), .second, .val (.long q2), .second, .val (.long q3), .second, .val (.int p4), .val (.int p5), .val (.int p6), .val (.int (2 : Int32)), .val (.ref b142), .val (.ref b149), .val (.int vv), .val (.int kk), .val (.int bb), .unset, .val (.long ww), .second] [(.int (1 : Int32))])) _
            refine XS.goto X153.here hx rfl (pc0 := 142) (pc' := 146) rfl (hb hby at_142) (by decide) (by decide) ?_
            show Steps p.tables e below (T153.setTop (mkF m 146 #[.val (.long q1), .second, .val (.long q2), .second, .val (.long q3), .second, .val (.int p4), .val (.int p5), .val (.int p6), .val (.int (2 : Int32)), .val (.ref b142), .val (.ref b149), .val (.int vv), .val (.int kk), .val (.int bb), .unset, .val (.long ww), .second] [(.int (1 : Int32))])) _
            have j0 : (if (ww &&& ((1 : Int64) <<< (bb &&& 0x3f).toInt64)) = (0 : Int64) then (0 : Int32) else (1 : Int32)) = (1 : Int32) := by rw [if_neg hc138_166]
            rw [j0] at k
            exact k
        generalize hv_ee : (if (ww &&& ((1 : Int64) <<< (bb &&& 0x3f).toInt64)) = (0 : Int64) then (0 : Int32) else (1 : Int32)) = ee
        show EndsQ _ _ _ _ _ _ _ (T153.setTop (mkF m 146 #[.val (.long q1), .second, .val (.long q2), .second, .val (.long q3), .second, .val (.int p4), .val (.int p5), .val (.int p6), .val (.int (2 : Int32)), .val (.ref b142), .val (.ref b149), .val (.int vv), .val (.int kk), .val (.int bb), .unset, .val (.long ww), .second] [(.int ee)]))
        refine EndsQ.go (b := T153.setTop (mkF m 152 #[.val (.long q1), .second, .val (.long q2), .second, .val (.long q3), .second, .val (.int p4), .val (.int p5), .val (.int p6), .val (.int (2 : Int32)), .val (.ref b142), .val (.ref b149), .val (.int vv), .val (.int kk), .val (.int bb), .val (.int ee), .val (.long ww), .second] [(.int vv), (.ref b149)])) (fun t k => ?_) ?_
        · show Steps p.tables e below (T153.setTop (mkF m 146 #[.val (.long q1), .second, .val (.long q2), .second, .val (.long q3), .second, .val (.int p4), .val (.int p5), .val (.int p6), .val (.int (2 : Int32)), .val (.ref b142), .val (.ref b149), .val (.int vv), .val (.int kk), .val (.int bb), .unset, .val (.long ww), .second] [(.int ee)])) _
          refine XS.istore X153.here hx rfl (hb hby at_146) rfl (l' := #[.val (.long q1), .second, .val (.long q2), .second, .val (.long q3), .second, .val (.int p4), .val (.int p5), .val (.int p6), .val (.int (2 : Int32)), .val (.ref b142), .val (.ref b149), .val (.int vv), .val (.int kk), .val (.int bb), .val (.int ee), .val (.long ww), .second]) rfl ?_
          show Steps p.tables e below (T153.setTop (mkF m 148 #[.val (.long q1), .second, .val (.long q2), .second, .val (.long q3), .second, .val (.int p4), .val (.int p5), .val (.int p6), .val (.int (2 : Int32)), .val (.ref b142), .val (.ref b149), .val (.int vv), .val (.int kk), .val (.int bb), .val (.int ee), .val (.long ww), .second] [])) _
          refine XS.aload X153.here hx rfl (hb hby at_148) rfl rfl ?_
          show Steps p.tables e below (T153.setTop (mkF m 150 #[.val (.long q1), .second, .val (.long q2), .second, .val (.long q3), .second, .val (.int p4), .val (.int p5), .val (.int p6), .val (.int (2 : Int32)), .val (.ref b142), .val (.ref b149), .val (.int vv), .val (.int kk), .val (.int bb), .val (.int ee), .val (.long ww), .second] [(.ref b149)])) _
          refine XS.iload X153.here hx rfl (hb hby at_150) rfl ?_
          show Steps p.tables e below (T153.setTop (mkF m 152 #[.val (.long q1), .second, .val (.long q2), .second, .val (.long q3), .second, .val (.int p4), .val (.int p5), .val (.int p6), .val (.int (2 : Int32)), .val (.ref b142), .val (.ref b149), .val (.int vv), .val (.int kk), .val (.int bb), .val (.int ee), .val (.long ww), .second] [(.int vv), (.ref b149)])) _
          exact k
        have hsel : own_w vv < (1 : Int32) → (¬ own_w vv < 0 ∧ own_w vv < (1 : Int32)) ∧ ([(.long q1)] : List Value).getD (own_w vv).toNatClampNeg (.long (0 : Int64)) = .long ww := by
          intro hlt
          rw [hkw.1] at hlt ⊢
          rw [← hv_ww]
          rcases own_c3 kk hkw.2 with q | q | q | q
          · rw [q] at hlt ⊢; exact ⟨by decide, rfl⟩
          · rw [q] at hlt ⊢; exact absurd hlt (by decide)
          · rw [q] at hlt ⊢; exact absurd hlt (by decide)
          · exact absurd hlt (own_gt2 kk (1 : Int32) q (by decide))
        have hz0 : ¬ kk < (1 : Int32) → ww = 0 := by
          intro hlt
          rw [← hv_ww]
          rcases own_c3 kk hkw.2 with q | q | q | q
          · rw [q] at hlt hc97_163 ⊢; exact absurd (by decide) hlt
          · rw [q] at hlt hc97_163 ⊢; exact hz1
          · rw [q] at hlt hc97_163 ⊢; exact absurd hc97_163 (by decide)
          · exact absurd hc97_163 (own_gt2 kk (2 : Int32) q (by decide))
        obtain ⟨cq167, kq167, qa167, qb167, qc167⟩ := isOf hZ rfl Ex153
        obtain ⟨_, _, ⟨T167, L167, kk167, nn167⟩, -, X167, ⟨Lc167, hQ167, l167, y167, z167⟩, st167⟩ := X153.virtualBack hx (y := (⟨"com/example/sextant/sextant/ValueSet", "contains", "(I)Z"⟩ : MethodName)) (z := (⟨"com/example/sextant/sextant/ValueSet", "contains", "(I)Z"⟩ : MethodName)) hown (mvT hZ (hw _ (List.mem_of_getElem? (i := 13) rfl))) (mvT hZ (hw _ (List.mem_of_getElem? (i := 14) rfl))) (notFace_of_selects (args := #[]) (mvT hZ (hw _ (List.mem_of_getElem? (i := 16) rfl)))) (mvT hZ (hw _ (List.mem_of_getElem? (i := 16) rfl))) (mvT hZ (hw _ (List.mem_of_getElem? (i := 15) rfl))) (by decide) (backOf (W := 0) (rm3 l Z a0 hw [] b149 vv c153 kc153 (1 : Int32) [(.long q1)] ww T153.heap n0 f154 Fx153 Vx153 hsel) hZ (hw _ (List.mem_of_getElem? (i := 17) rfl)) (hw _ (List.mem_of_getElem? (i := 3) rfl)) (by decide) (by decide)) qa167 qc167 (g := (mkF m 152 #[.val (.long q1), .second, .val (.long q2), .second, .val (.long q3), .second, .val (.int p4), .val (.int p5), .val (.int p6), .val (.int (2 : Int32)), .val (.ref b142), .val (.ref b149), .val (.int vv), .val (.int kk), .val (.int bb), .val (.int ee), .val (.long ww), .second] [(.int vv), (.ref b149)])) rfl (by rw [hml]; rfl) (Steps.refl _) (argsL := [(.int vv)]) (rest := []) (lenOf pd_3 rfl) rfl (by show 2 * 0 + _ ≤ _; exact Nat.le_of_eq rfl) (hb hby at_152) (fun _ _ => ⟨rfl, rfl, (by decide : 3 + 0 ≤ _), (by decide : 5 + 0 ≤ _)⟩)
        dsimp only [Pt.U, Pt.locs, Pt.cells, Pt.slots] at X167 l167 y167 z167 st167 hQ167
        subst l167 y167 z167
        obtain ⟨rfl, Nq167, eq167⟩ := hQ167
        have N167 := Fr.app N153 Nq167
        refine EndsQ.go (fun t k => st167.trans k) ?_
        show EndsQ _ _ _ _ _ _ _ (T167.setTop (mkF m 155 #[.val (.long q1), .second, .val (.long q2), .second, .val (.long q3), .second, .val (.int p4), .val (.int p5), .val (.int p6), .val (.int (2 : Int32)), .val (.ref b142), .val (.ref b149), .val (.int vv), .val (.int kk), .val (.int bb), .val (.int ee), .val (.long ww), .second] [(.int (own_has vv (1 : Int32) ww))]))
        refine EndsQ.go (b := T167.setTop (mkF m 165 #[.val (.long q1), .second, .val (.long q2), .second, .val (.long q3), .second, .val (.int p4), .val (.int p5), .val (.int p6), .val (.int (2 : Int32)), .val (.ref b142), .val (.ref b149), .val (.int vv), .val (.int kk), .val (.int bb), .val (.int ee), .val (.long ww), .second] [(.int (1 : Int32))])) (fun t k => ?_) ?_
        · show Steps p.tables e below (T167.setTop (mkF m 155 #[.val (.long q1), .second, .val (.long q2), .second, .val (.long q3), .second, .val (.int p4), .val (.int p5), .val (.int p6), .val (.int (2 : Int32)), .val (.ref b142), .val (.ref b149), .val (.int vv), .val (.int kk), .val (.int bb), .val (.int ee), .val (.long ww), .second] [(.int (own_has vv (1 : Int32) ww))])) _
          refine XS.iload X167.here hx rfl (hb hby at_155) rfl ?_
          show Steps p.tables e below (T167.setTop (mkF m 157 #[.val (.long q1), .second, .val (.long q2), .second, .val (.long q3), .second, .val (.int p4), .val (.int p5), .val (.int p6), .val (.int (2 : Int32)), .val (.ref b142), .val (.ref b149), .val (.int vv), .val (.int kk), .val (.int bb), .val (.int ee), .val (.long ww), .second] [(.int ee), (.int (own_has vv (1 : Int32) ww))])) _
          refine XS.icmpNo X167.here hx rfl (hb hby at_157) rfl (teq ((own_hasB vv (1 : Int32) kk bb ww hb_v hkw.1 hv_bb hz0).trans hv_ee)).2 ?_
          show Steps p.tables e below (T167.setTop (mkF m 160 #[.val (.long q1), .second, .val (.long q2), .second, .val (.long q3), .second, .val (.int p4), .val (.int p5), .val (.int p6), .val (.int (2 : Int32)), .val (.ref b142), .val (.ref b149), .val (.int vv), .val (.int kk), .val (.int bb), .val (.int ee), .val (.long ww), .second] [])) _
          refine XS.iconst X167.here hx rfl (hb hby at_160) ?_
          show Steps p.tables e below (T167.setTop (mkF m 161 #[.val (.long q1), .second, .val (.long q2), .second, .val (.long q3), .second, .val (.int p4), .val (.int p5), .val (.int p6), .val (.int (2 : Int32)), .val (.ref b142), .val (.ref b149), .val (.int vv), .val (.int kk), .val (.int bb), .val (.int ee), .val (.long ww), .second] [(.int (1 : Int32))])) _
          refine XS.goto X167.here hx rfl (pc0 := 161) (pc' := 165) rfl (hb hby at_161) (by decide) (by decide) ?_
          show Steps p.tables e below (T167.setTop (mkF m 165 #[.val (.long q1), .second, .val (.long q2), .second, .val (.long q3), .second, .val (.int p4), .val (.int p5), .val (.int p6), .val (.int (2 : Int32)), .val (.ref b142), .val (.ref b149), .val (.int vv), .val (.int kk), .val (.int bb), .val (.int ee), .val (.long ww), .second] [(.int (1 : Int32))])) _
          exact k
        refine EndsQ.retN X167 hx Bd.notSynchronized (t := .boolean) Bd.returns (by simp) (hb hby at_165) (by decide) (by decide) ?_
        show Q0 Z q1 q2 q3 p4 p5 p6 h0 n0 (some (.int (nar .boolean (1 : Int32)))) T167.heap _
        rw [eq167]
        exact ⟨rfl, N167⟩
      · refine EndsQ.go (b := T153.setTop (mkF m 100 #[.val (.long q1), .second, .val (.long q2), .second, .val (.long q3), .second, .val (.int p4), .val (.int p5), .val (.int p6), .val (.int (2 : Int32)), .val (.ref b142), .val (.ref b149), .val (.int vv), .val (.int kk), .val (.int bb), .unset, .unset, .unset] [])) (fun t k => ?_) ?_
        · show Steps p.tables e below (T153.setTop (mkF m 97 #[.val (.long q1), .second, .val (.long q2), .second, .val (.long q3), .second, .val (.int p4), .val (.int p5), .val (.int p6), .val (.int (2 : Int32)), .val (.ref b142), .val (.ref b149), .val (.int vv), .val (.int kk), .val (.int bb), .unset, .unset, .unset] [(.int (2 : Int32)), (.int kk)])) _
          refine XS.icmpNo X153.here hx rfl (hb hby at_97) rfl (flt hc97_163).1 ?_
          show Steps p.tables e below (T153.setTop (mkF m 100 #[.val (.long q1), .second, .val (.long q2), .second, .val (.long q3), .second, .val (.int p4), .val (.int p5), .val (.int p6), .val (.int (2 : Int32)), .val (.ref b142), .val (.ref b149), .val (.int vv), .val (.int kk), .val (.int bb), .unset, .unset, .unset] [])) _
          exact k
        refine EndsQ.go (b := T153.setTop (mkF m 152 #[.val (.long q1), .second, .val (.long q2), .second, .val (.long q3), .second, .val (.int p4), .val (.int p5), .val (.int p6), .val (.int (2 : Int32)), .val (.ref b142), .val (.ref b149), .val (.int vv), .val (.int kk), .val (.int bb), .val (.int (0 : Int32)), .unset, .unset] [(.int vv), (.ref b149)])) (fun t k => ?_) ?_
        · show Steps p.tables e below (T153.setTop (mkF m 100 #[.val (.long q1), .second, .val (.long q2), .second, .val (.long q3), .second, .val (.int p4), .val (.int p5), .val (.int p6), .val (.int (2 : Int32)), .val (.ref b142), .val (.ref b149), .val (.int vv), .val (.int kk), .val (.int bb), .unset, .unset, .unset] [])) _
          refine XS.iconst X153.here hx rfl (hb hby at_100) ?_
          show Steps p.tables e below (T153.setTop (mkF m 101 #[.val (.long q1), .second, .val (.long q2), .second, .val (.long q3), .second, .val (.int p4), .val (.int p5), .val (.int p6), .val (.int (2 : Int32)), .val (.ref b142), .val (.ref b149), .val (.int vv), .val (.int kk), .val (.int bb), .unset, .unset, .unset] [(.int (0 : Int32))])) _
          refine XS.istore X153.here hx rfl (hb hby at_101) rfl (l' := #[.val (.long q1), .second, .val (.long q2), .second, .val (.long q3), .second, .val (.int p4), .val (.int p5), .val (.int p6), .val (.int (2 : Int32)), .val (.ref b142), .val (.ref b149), .val (.int vv), .val (.int kk), .val (.int bb), .val (.int (0 : Int32)), .unset, .unset]) rfl ?_
          show Steps p.tables e below (T153.setTop (mkF m 103 #[.val (.long q1), .second, .val (.long q2), .second, .val (.long q3), .second, .val (.int p4), .val (.int p5), .val (.int p6), .val (.int (2 : Int32)), .val (.ref b142), .val (.ref b149), .val (.int vv), .val (.int kk), .val (.int bb), .val (.int (0 : Int32)), .unset, .unset] [])) _
          refine XS.goto X153.here hx rfl (pc0 := 103) (pc' := 148) rfl (hb hby at_103) (by decide) (by decide) ?_
          show Steps p.tables e below (T153.setTop (mkF m 148 #[.val (.long q1), .second, .val (.long q2), .second, .val (.long q3), .second, .val (.int p4), .val (.int p5), .val (.int p6), .val (.int (2 : Int32)), .val (.ref b142), .val (.ref b149), .val (.int vv), .val (.int kk), .val (.int bb), .val (.int (0 : Int32)), .unset, .unset] [])) _
          refine XS.aload X153.here hx rfl (hb hby at_148) rfl rfl ?_
          show Steps p.tables e below (T153.setTop (mkF m 150 #[.val (.long q1), .second, .val (.long q2), .second, .val (.long q3), .second, .val (.int p4), .val (.int p5), .val (.int p6), .val (.int (2 : Int32)), .val (.ref b142), .val (.ref b149), .val (.int vv), .val (.int kk), .val (.int bb), .val (.int (0 : Int32)), .unset, .unset] [(.ref b149)])) _
          refine XS.iload X153.here hx rfl (hb hby at_150) rfl ?_
          show Steps p.tables e below (T153.setTop (mkF m 152 #[.val (.long q1), .second, .val (.long q2), .second, .val (.long q3), .second, .val (.int p4), .val (.int p5), .val (.int p6), .val (.int (2 : Int32)), .val (.ref b142), .val (.ref b149), .val (.int vv), .val (.int kk), .val (.int bb), .val (.int (0 : Int32)), .unset, .unset] [(.int vv), (.ref b149)])) _
          exact k
        obtain ⟨cq168, kq168, qa168, qb168, qc168⟩ := isOf hZ rfl Ex153
        obtain ⟨_, _, ⟨T168, L168, kk168, nn168⟩, -, X168, ⟨Lc168, hQ168, l168, y168, z168⟩, st168⟩ := X153.virtualBack hx (y := (⟨"com/example/sextant/sextant/ValueSet", "contains", "(I)Z"⟩ : MethodName)) (z := (⟨"com/example/sextant/sextant/ValueSet", "contains", "(I)Z"⟩ : MethodName)) hown (mvT hZ (hw _ (List.mem_of_getElem? (i := 13) rfl))) (mvT hZ (hw _ (List.mem_of_getElem? (i := 14) rfl))) (notFace_of_selects (args := #[]) (mvT hZ (hw _ (List.mem_of_getElem? (i := 16) rfl)))) (mvT hZ (hw _ (List.mem_of_getElem? (i := 16) rfl))) (mvT hZ (hw _ (List.mem_of_getElem? (i := 15) rfl))) (by decide) (backOf (W := 0) (rm3 l Z a0 hw [] b149 vv c153 kc153 (1 : Int32) [(.long q1)] (0 : Int64) T153.heap n0 f154 Fx153 Vx153 (fun hlt => absurd hlt (by rw [hkw.1]; exact own_mono kk (2 : Int32) (1 : Int32) hc97_163 (by decide)))) hZ (hw _ (List.mem_of_getElem? (i := 17) rfl)) (hw _ (List.mem_of_getElem? (i := 3) rfl)) (by decide) (by decide)) qa168 qc168 (g := (mkF m 152 #[.val (.long q1), .second, .val (.long q2), .second, .val (.long q3), .second, .val (.int p4), .val (.int p5), .val (.int p6), .val (.int (2 : Int32)), .val (.ref b142), .val (.ref b149), .val (.int vv), .val (.int kk), .val (.int bb), .val (.int (0 : Int32)), .unset, .unset] [(.int vv), (.ref b149)])) rfl (by rw [hml]; rfl) (Steps.refl _) (argsL := [(.int vv)]) (rest := []) (lenOf pd_3 rfl) rfl (by show 2 * 0 + _ ≤ _; exact Nat.le_of_eq rfl) (hb hby at_152) (fun _ _ => ⟨rfl, rfl, (by decide : 3 + 0 ≤ _), (by decide : 5 + 0 ≤ _)⟩)
        dsimp only [Pt.U, Pt.locs, Pt.cells, Pt.slots] at X168 l168 y168 z168 st168 hQ168
        subst l168 y168 z168
        obtain ⟨rfl, Nq168, eq168⟩ := hQ168
        have N168 := Fr.app N153 Nq168
        refine EndsQ.go (fun t k => st168.trans k) ?_
        show EndsQ _ _ _ _ _ _ _ (T168.setTop (mkF m 155 #[.val (.long q1), .second, .val (.long q2), .second, .val (.long q3), .second, .val (.int p4), .val (.int p5), .val (.int p6), .val (.int (2 : Int32)), .val (.ref b142), .val (.ref b149), .val (.int vv), .val (.int kk), .val (.int bb), .val (.int (0 : Int32)), .unset, .unset] [(.int (own_has vv (1 : Int32) (0 : Int64)))]))
        refine EndsQ.go (b := T168.setTop (mkF m 165 #[.val (.long q1), .second, .val (.long q2), .second, .val (.long q3), .second, .val (.int p4), .val (.int p5), .val (.int p6), .val (.int (2 : Int32)), .val (.ref b142), .val (.ref b149), .val (.int vv), .val (.int kk), .val (.int bb), .val (.int (0 : Int32)), .unset, .unset] [(.int (1 : Int32))])) (fun t k => ?_) ?_
        · show Steps p.tables e below (T168.setTop (mkF m 155 #[.val (.long q1), .second, .val (.long q2), .second, .val (.long q3), .second, .val (.int p4), .val (.int p5), .val (.int p6), .val (.int (2 : Int32)), .val (.ref b142), .val (.ref b149), .val (.int vv), .val (.int kk), .val (.int bb), .val (.int (0 : Int32)), .unset, .unset] [(.int (own_has vv (1 : Int32) (0 : Int64)))])) _
          refine XS.iload X168.here hx rfl (hb hby at_155) rfl ?_
          show Steps p.tables e below (T168.setTop (mkF m 157 #[.val (.long q1), .second, .val (.long q2), .second, .val (.long q3), .second, .val (.int p4), .val (.int p5), .val (.int p6), .val (.int (2 : Int32)), .val (.ref b142), .val (.ref b149), .val (.int vv), .val (.int kk), .val (.int bb), .val (.int (0 : Int32)), .unset, .unset] [(.int (0 : Int32)), (.int (own_has vv (1 : Int32) (0 : Int64)))])) _
          refine XS.icmpNo X168.here hx rfl (hb hby at_157) rfl (teq (own_hasA vv (1 : Int32) kk (0 : Int64) hkw.1 (own_mono kk (2 : Int32) (1 : Int32) hc97_163 (by decide)))).2 ?_
          show Steps p.tables e below (T168.setTop (mkF m 160 #[.val (.long q1), .second, .val (.long q2), .second, .val (.long q3), .second, .val (.int p4), .val (.int p5), .val (.int p6), .val (.int (2 : Int32)), .val (.ref b142), .val (.ref b149), .val (.int vv), .val (.int kk), .val (.int bb), .val (.int (0 : Int32)), .unset, .unset] [])) _
          refine XS.iconst X168.here hx rfl (hb hby at_160) ?_
          show Steps p.tables e below (T168.setTop (mkF m 161 #[.val (.long q1), .second, .val (.long q2), .second, .val (.long q3), .second, .val (.int p4), .val (.int p5), .val (.int p6), .val (.int (2 : Int32)), .val (.ref b142), .val (.ref b149), .val (.int vv), .val (.int kk), .val (.int bb), .val (.int (0 : Int32)), .unset, .unset] [(.int (1 : Int32))])) _
          refine XS.goto X168.here hx rfl (pc0 := 161) (pc' := 165) rfl (hb hby at_161) (by decide) (by decide) ?_
          show Steps p.tables e below (T168.setTop (mkF m 165 #[.val (.long q1), .second, .val (.long q2), .second, .val (.long q3), .second, .val (.int p4), .val (.int p5), .val (.int p6), .val (.int (2 : Int32)), .val (.ref b142), .val (.ref b149), .val (.int vv), .val (.int kk), .val (.int bb), .val (.int (0 : Int32)), .unset, .unset] [(.int (1 : Int32))])) _
          exact k
        refine EndsQ.retN X168 hx Bd.notSynchronized (t := .boolean) Bd.returns (by simp) (hb hby at_165) (by decide) (by decide) ?_
        show Q0 Z q1 q2 q3 p4 p5 p6 h0 n0 (some (.int (nar .boolean (1 : Int32)))) T168.heap _
        rw [eq168]
        exact ⟨rfl, N168⟩
    · have ht0 := trivial
      refine EndsQ.go (b := T153.setTop (mkF m 60 #[.val (.long q1), .second, .val (.long q2), .second, .val (.long q3), .second, .val (.int p4), .val (.int p5), .val (.int p6), .val (.int (2 : Int32)), .val (.ref b142), .val (.ref b149), .unset, .unset, .unset, .unset, .unset, .unset] [(.int (p6 &&& (1 : Int32)))])) (fun t k => ?_) ?_
      · show Steps p.tables e below (T153.setTop (mkF m 54 #[.val (.long q1), .second, .val (.long q2), .second, .val (.long q3), .second, .val (.int p4), .val (.int p5), .val (.int p6), .val (.int (2 : Int32)), .val (.ref b142), .unset, .unset, .unset, .unset, .unset, .unset, .unset] [(.ref b149)])) _
        refine XS.astore X153.here hx rfl (hb hby at_54) rfl rfl (l' := #[.val (.long q1), .second, .val (.long q2), .second, .val (.long q3), .second, .val (.int p4), .val (.int p5), .val (.int p6), .val (.int (2 : Int32)), .val (.ref b142), .val (.ref b149), .unset, .unset, .unset, .unset, .unset, .unset]) rfl ?_
        show Steps p.tables e below (T153.setTop (mkF m 56 #[.val (.long q1), .second, .val (.long q2), .second, .val (.long q3), .second, .val (.int p4), .val (.int p5), .val (.int p6), .val (.int (2 : Int32)), .val (.ref b142), .val (.ref b149), .unset, .unset, .unset, .unset, .unset, .unset] [])) _
        refine XS.iload X153.here hx rfl (hb hby at_56) rfl ?_
        show Steps p.tables e below (T153.setTop (mkF m 58 #[.val (.long q1), .second, .val (.long q2), .second, .val (.long q3), .second, .val (.int p4), .val (.int p5), .val (.int p6), .val (.int (2 : Int32)), .val (.ref b142), .val (.ref b149), .unset, .unset, .unset, .unset, .unset, .unset] [(.int p6)])) _
        refine XS.iconst X153.here hx rfl (hb hby at_58) ?_
        show Steps p.tables e below (T153.setTop (mkF m 59 #[.val (.long q1), .second, .val (.long q2), .second, .val (.long q3), .second, .val (.int p4), .val (.int p5), .val (.int p6), .val (.int (2 : Int32)), .val (.ref b142), .val (.ref b149), .unset, .unset, .unset, .unset, .unset, .unset] [(.int (1 : Int32)), (.int p6)])) _
        refine XS.iand X153.here hx rfl (hb hby at_59) rfl ?_
        show Steps p.tables e below (T153.setTop (mkF m 60 #[.val (.long q1), .second, .val (.long q2), .second, .val (.long q3), .second, .val (.int p4), .val (.int p5), .val (.int p6), .val (.int (2 : Int32)), .val (.ref b142), .val (.ref b149), .unset, .unset, .unset, .unset, .unset, .unset] [(.int (p6 &&& (1 : Int32)))])) _
        exact k
      refine EndsQ.go (b := T153.setTop (mkF m 77 #[.val (.long q1), .second, .val (.long q2), .second, .val (.long q3), .second, .val (.int p4), .val (.int p5), .val (.int p6), .val (.int (2 : Int32)), .val (.ref b142), .val (.ref b149), .unset, .unset, .unset, .unset, .unset, .unset] [(.int (if (p6 &&& (1 : Int32)) = (0 : Int32) then (p5 &&& (255 : Int32)) else (p5 &&& (2147483647 : Int32))))])) (fun t k => ?_) ?_
      · by_cases hc60_169 : (p6 &&& (1 : Int32)) = (0 : Int32)
        · refine XS.ifYes X153.here hx rfl (pc0 := 60) (pc' := 71) rfl (hb hby at_60) rfl ((if0 _ _).trans (teq hc60_169).1) (by decide) (by decide) ?_
          show Steps p.tables e below (T153.setTop (mkF m 71 #[.val (.long q1), .second, .val (.long q2), .second, .val (.long q3), .second, .val (.int p4), .val (.int p5), .val (.int p6), .val (.int (2 : Int32)), .val (.ref b142), .val (.ref b149), .unset, .unset, .unset, .unset, .unset, .unset] [])) _
          refine XS.iload X153.here hx rfl (hb hby at_71) rfl ?_
          show Steps p.tables e below (T153.setTop (mkF m 73 #[.val (.long q1), .second, .val (.long q2), .second, .val (.long q3), .second, .val (.int p4), .val (.int p5), .val (.int p6), .val (.int (2 : Int32)), .val (.ref b142), .val (.ref b149), .unset, .unset, .unset, .unset, .unset, .unset] [(.int p5)])) _
          refine XS.sipush X153.here hx rfl (hb hby at_73) ?_
          show Steps p.tables e below (T153.setTop (mkF m 76 #[.val (.long q1), .second, .val (.long q2), .second, .val (.long q3), .second, .val (.int p4), .val (.int p5), .val (.int p6), .val (.int (2 : Int32)), .val (.ref b142), .val (.ref b149), .unset, .unset, .unset, .unset, .unset, .unset] [(.int (255 : Int32)), (.int p5)])) _
          refine XS.iand X153.here hx rfl (hb hby at_76) rfl ?_
          show Steps p.tables e below (T153.setTop (mkF m 77 #[.val (.long q1), .second, .val (.long q2), .second, .val (.long q3), .second, .val (.int p4), .val (.int p5), .val (.int p6), .val (.int (2 : Int32)), .val (.ref b142), .val (.ref b149), .unset, .unset, .unset, .unset, .unset, .unset] [(.int (p5 &&& (255 : Int32)))])) _
          have j0 : (if (p6 &&& (1 : Int32)) = (0 : Int32) then (p5 &&& (255 : Int32)) else (p5 &&& (2147483647 : Int32))) = (p5 &&& (255 : Int32)) := by rw [if_pos hc60_169]
          rw [j0] at k
          exact k
        · refine XS.ifNo X153.here hx rfl (hb hby at_60) rfl ((if0 _ _).trans (feq hc60_169).1) ?_
          show Steps p.tables e below (T153.setTop (mkF m 63 #[.val (.long q1), .second, .val (.long q2), .second, .val (.long q3), .second, .val (.int p4), .val (.int p5), .val (.int p6), .val (.int (2 : Int32)), .val (.ref b142), .val (.ref b149), .unset, .unset, .unset, .unset, .unset, .unset] [])) _
          refine XS.iload X153.here hx rfl (hb hby at_63) rfl ?_
          show Steps p.tables e below (T153.setTop (mkF m 65 #[.val (.long q1), .second, .val (.long q2), .second, .val (.long q3), .second, .val (.int p4), .val (.int p5), .val (.int p6), .val (.int (2 : Int32)), .val (.ref b142), .val (.ref b149), .unset, .unset, .unset, .unset, .unset, .unset] [(.int p5)])) _
          refine X153.ldcInt hx hown (mvT hZ (hw _ (List.mem_of_getElem? (i := 12) rfl))) (g := (mkF m 65 #[.val (.long q1), .second, .val (.long q2), .second, .val (.long q3), .second, .val (.int p4), .val (.int p5), .val (.int p6), .val (.int (2 : Int32)), .val (.ref b142), .val (.ref b149), .unset, .unset, .unset, .unset, .unset, .unset] [(.int p5)])) rfl (hb hby at_65) _ ?_
          show Steps p.tables e below (T153.setTop (mkF m 67 #[.val (.long q1), .second, .val (.long q2), .second, .val (.long q3), .second, .val (.int p4), .val (.int p5), .val (.int p6), .val (.int (2 : Int32)), .val (.ref b142), .val (.ref b149), .unset, .unset, .unset, .unset, .unset, .unset] [(.int (2147483647 : Int32)), (.int p5)])) _
          refine XS.iand X153.here hx rfl (hb hby at_67) rfl ?_
          show Steps p.tables e below (T153.setTop (mkF m 68 #[.val (.long q1), .second, .val (.long q2), .second, .val (.long q3), .second, .val (.int p4), .val (.int p5), .val (.int p6), .val (.int (2 : Int32)), .val (.ref b142), .val (.ref b149), .unset, .unset, .unset, .unset, .unset, .unset] [(.int (p5 &&& (2147483647 : Int32)))])) _
          refine XS.goto X153.here hx rfl (pc0 := 68) (pc' := 77) rfl (hb hby at_68) (by decide) (by decide) ?_
          show Steps p.tables e below (T153.setTop (mkF m 77 #[.val (.long q1), .second, .val (.long q2), .second, .val (.long q3), .second, .val (.int p4), .val (.int p5), .val (.int p6), .val (.int (2 : Int32)), .val (.ref b142), .val (.ref b149), .unset, .unset, .unset, .unset, .unset, .unset] [(.int (p5 &&& (2147483647 : Int32)))])) _
          have j0 : (if (p6 &&& (1 : Int32)) = (0 : Int32) then (p5 &&& (255 : Int32)) else (p5 &&& (2147483647 : Int32))) = (p5 &&& (2147483647 : Int32)) := by rw [if_neg hc60_169]
          rw [j0] at k
          exact k
      generalize hv_vv : (if (p6 &&& (1 : Int32)) = (0 : Int32) then (p5 &&& (255 : Int32)) else (p5 &&& (2147483647 : Int32))) = vv
      have hb_v : 0 ≤ vv.toInt := by rw [← hv_vv]; exact own_v p5 p6
      have hkw := own_kw vv hb_v
      show EndsQ _ _ _ _ _ _ _ (T153.setTop (mkF m 77 #[.val (.long q1), .second, .val (.long q2), .second, .val (.long q3), .second, .val (.int p4), .val (.int p5), .val (.int p6), .val (.int (2 : Int32)), .val (.ref b142), .val (.ref b149), .unset, .unset, .unset, .unset, .unset, .unset] [(.int vv)]))
      refine EndsQ.go (b := T153.setTop (mkF m 86 #[.val (.long q1), .second, .val (.long q2), .second, .val (.long q3), .second, .val (.int p4), .val (.int p5), .val (.int p6), .val (.int (2 : Int32)), .val (.ref b142), .val (.ref b149), .val (.int vv), .val (.int (vv / (64 : Int32))), .unset, .unset, .unset, .unset] [])) (fun t k => ?_) ?_
      · show Steps p.tables e below (T153.setTop (mkF m 77 #[.val (.long q1), .second, .val (.long q2), .second, .val (.long q3), .second, .val (.int p4), .val (.int p5), .val (.int p6), .val (.int (2 : Int32)), .val (.ref b142), .val (.ref b149), .unset, .unset, .unset, .unset, .unset, .unset] [(.int vv)])) _
        refine XS.istore X153.here hx rfl (hb hby at_77) rfl (l' := #[.val (.long q1), .second, .val (.long q2), .second, .val (.long q3), .second, .val (.int p4), .val (.int p5), .val (.int p6), .val (.int (2 : Int32)), .val (.ref b142), .val (.ref b149), .val (.int vv), .unset, .unset, .unset, .unset, .unset]) rfl ?_
        show Steps p.tables e below (T153.setTop (mkF m 79 #[.val (.long q1), .second, .val (.long q2), .second, .val (.long q3), .second, .val (.int p4), .val (.int p5), .val (.int p6), .val (.int (2 : Int32)), .val (.ref b142), .val (.ref b149), .val (.int vv), .unset, .unset, .unset, .unset, .unset] [])) _
        refine XS.iload X153.here hx rfl (hb hby at_79) rfl ?_
        show Steps p.tables e below (T153.setTop (mkF m 81 #[.val (.long q1), .second, .val (.long q2), .second, .val (.long q3), .second, .val (.int p4), .val (.int p5), .val (.int p6), .val (.int (2 : Int32)), .val (.ref b142), .val (.ref b149), .val (.int vv), .unset, .unset, .unset, .unset, .unset] [(.int vv)])) _
        refine XS.bipush X153.here hx rfl (hb hby at_81) ?_
        show Steps p.tables e below (T153.setTop (mkF m 83 #[.val (.long q1), .second, .val (.long q2), .second, .val (.long q3), .second, .val (.int p4), .val (.int p5), .val (.int p6), .val (.int (2 : Int32)), .val (.ref b142), .val (.ref b149), .val (.int vv), .unset, .unset, .unset, .unset, .unset] [(.int (64 : Int32)), (.int vv)])) _
        refine XS.idiv X153.here hx rfl (hb hby at_83) rfl (by decide) ?_
        show Steps p.tables e below (T153.setTop (mkF m 84 #[.val (.long q1), .second, .val (.long q2), .second, .val (.long q3), .second, .val (.int p4), .val (.int p5), .val (.int p6), .val (.int (2 : Int32)), .val (.ref b142), .val (.ref b149), .val (.int vv), .unset, .unset, .unset, .unset, .unset] [(.int (vv / (64 : Int32)))])) _
        refine XS.istore X153.here hx rfl (hb hby at_84) rfl (l' := #[.val (.long q1), .second, .val (.long q2), .second, .val (.long q3), .second, .val (.int p4), .val (.int p5), .val (.int p6), .val (.int (2 : Int32)), .val (.ref b142), .val (.ref b149), .val (.int vv), .val (.int (vv / (64 : Int32))), .unset, .unset, .unset, .unset]) rfl ?_
        show Steps p.tables e below (T153.setTop (mkF m 86 #[.val (.long q1), .second, .val (.long q2), .second, .val (.long q3), .second, .val (.int p4), .val (.int p5), .val (.int p6), .val (.int (2 : Int32)), .val (.ref b142), .val (.ref b149), .val (.int vv), .val (.int (vv / (64 : Int32))), .unset, .unset, .unset, .unset] [])) _
        exact k
      generalize hv_kk : (vv / (64 : Int32)) = kk
      rw [hv_kk] at hkw
      show EndsQ _ _ _ _ _ _ _ (T153.setTop (mkF m 86 #[.val (.long q1), .second, .val (.long q2), .second, .val (.long q3), .second, .val (.int p4), .val (.int p5), .val (.int p6), .val (.int (2 : Int32)), .val (.ref b142), .val (.ref b149), .val (.int vv), .val (.int kk), .unset, .unset, .unset, .unset] []))
      refine EndsQ.go (b := T153.setTop (mkF m 93 #[.val (.long q1), .second, .val (.long q2), .second, .val (.long q3), .second, .val (.int p4), .val (.int p5), .val (.int p6), .val (.int (2 : Int32)), .val (.ref b142), .val (.ref b149), .val (.int vv), .val (.int kk), .val (.int (vv % (64 : Int32))), .unset, .unset, .unset] [])) (fun t k => ?_) ?_
      · show Steps p.tables e below (T153.setTop (mkF m 86 #[.val (.long q1), .second, .val (.long q2), .second, .val (.long q3), .second, .val (.int p4), .val (.int p5), .val (.int p6), .val (.int (2 : Int32)), .val (.ref b142), .val (.ref b149), .val (.int vv), .val (.int kk), .unset, .unset, .unset, .unset] [])) _
        refine XS.iload X153.here hx rfl (hb hby at_86) rfl ?_
        show Steps p.tables e below (T153.setTop (mkF m 88 #[.val (.long q1), .second, .val (.long q2), .second, .val (.long q3), .second, .val (.int p4), .val (.int p5), .val (.int p6), .val (.int (2 : Int32)), .val (.ref b142), .val (.ref b149), .val (.int vv), .val (.int kk), .unset, .unset, .unset, .unset] [(.int vv)])) _
        refine XS.bipush X153.here hx rfl (hb hby at_88) ?_
        show Steps p.tables e below (T153.setTop (mkF m 90 #[.val (.long q1), .second, .val (.long q2), .second, .val (.long q3), .second, .val (.int p4), .val (.int p5), .val (.int p6), .val (.int (2 : Int32)), .val (.ref b142), .val (.ref b149), .val (.int vv), .val (.int kk), .unset, .unset, .unset, .unset] [(.int (64 : Int32)), (.int vv)])) _
        refine iremM X153 hx rfl (hb hby at_90) rfl (by decide) ?_
        show Steps p.tables e below (T153.setTop (mkF m 91 #[.val (.long q1), .second, .val (.long q2), .second, .val (.long q3), .second, .val (.int p4), .val (.int p5), .val (.int p6), .val (.int (2 : Int32)), .val (.ref b142), .val (.ref b149), .val (.int vv), .val (.int kk), .unset, .unset, .unset, .unset] [(.int (vv % (64 : Int32)))])) _
        refine XS.istore X153.here hx rfl (hb hby at_91) rfl (l' := #[.val (.long q1), .second, .val (.long q2), .second, .val (.long q3), .second, .val (.int p4), .val (.int p5), .val (.int p6), .val (.int (2 : Int32)), .val (.ref b142), .val (.ref b149), .val (.int vv), .val (.int kk), .val (.int (vv % (64 : Int32))), .unset, .unset, .unset]) rfl ?_
        show Steps p.tables e below (T153.setTop (mkF m 93 #[.val (.long q1), .second, .val (.long q2), .second, .val (.long q3), .second, .val (.int p4), .val (.int p5), .val (.int p6), .val (.int (2 : Int32)), .val (.ref b142), .val (.ref b149), .val (.int vv), .val (.int kk), .val (.int (vv % (64 : Int32))), .unset, .unset, .unset] [])) _
        exact k
      generalize hv_bb : (vv % (64 : Int32)) = bb
      show EndsQ _ _ _ _ _ _ _ (T153.setTop (mkF m 93 #[.val (.long q1), .second, .val (.long q2), .second, .val (.long q3), .second, .val (.int p4), .val (.int p5), .val (.int p6), .val (.int (2 : Int32)), .val (.ref b142), .val (.ref b149), .val (.int vv), .val (.int kk), .val (.int bb), .unset, .unset, .unset] []))
      refine EndsQ.go (b := T153.setTop (mkF m 97 #[.val (.long q1), .second, .val (.long q2), .second, .val (.long q3), .second, .val (.int p4), .val (.int p5), .val (.int p6), .val (.int (2 : Int32)), .val (.ref b142), .val (.ref b149), .val (.int vv), .val (.int kk), .val (.int bb), .unset, .unset, .unset] [(.int (2 : Int32)), (.int kk)])) (fun t k => ?_) ?_
      · show Steps p.tables e below (T153.setTop (mkF m 93 #[.val (.long q1), .second, .val (.long q2), .second, .val (.long q3), .second, .val (.int p4), .val (.int p5), .val (.int p6), .val (.int (2 : Int32)), .val (.ref b142), .val (.ref b149), .val (.int vv), .val (.int kk), .val (.int bb), .unset, .unset, .unset] [])) _
        refine XS.iload X153.here hx rfl (hb hby at_93) rfl ?_
        show Steps p.tables e below (T153.setTop (mkF m 95 #[.val (.long q1), .second, .val (.long q2), .second, .val (.long q3), .second, .val (.int p4), .val (.int p5), .val (.int p6), .val (.int (2 : Int32)), .val (.ref b142), .val (.ref b149), .val (.int vv), .val (.int kk), .val (.int bb), .unset, .unset, .unset] [(.int kk)])) _
        refine XS.iload X153.here hx rfl (hb hby at_95) rfl ?_
        show Steps p.tables e below (T153.setTop (mkF m 97 #[.val (.long q1), .second, .val (.long q2), .second, .val (.long q3), .second, .val (.int p4), .val (.int p5), .val (.int p6), .val (.int (2 : Int32)), .val (.ref b142), .val (.ref b149), .val (.int vv), .val (.int kk), .val (.int bb), .unset, .unset, .unset] [(.int (2 : Int32)), (.int kk)])) _
        exact k
      by_cases hc97_170 : kk < (2 : Int32)
      · refine EndsQ.go (b := T153.setTop (mkF m 106 #[.val (.long q1), .second, .val (.long q2), .second, .val (.long q3), .second, .val (.int p4), .val (.int p5), .val (.int p6), .val (.int (2 : Int32)), .val (.ref b142), .val (.ref b149), .val (.int vv), .val (.int kk), .val (.int bb), .unset, .unset, .unset] [])) (fun t k => ?_) ?_
        · show Steps p.tables e below (T153.setTop (mkF m 97 #[.val (.long q1), .second, .val (.long q2), .second, .val (.long q3), .second, .val (.int p4), .val (.int p5), .val (.int p6), .val (.int (2 : Int32)), .val (.ref b142), .val (.ref b149), .val (.int vv), .val (.int kk), .val (.int bb), .unset, .unset, .unset] [(.int (2 : Int32)), (.int kk)])) _
          refine XS.icmpYes X153.here hx rfl (pc0 := 97) (pc' := 106) rfl (hb hby at_97) rfl (tlt hc97_170).1 (by decide) (by decide) ?_
          show Steps p.tables e below (T153.setTop (mkF m 106 #[.val (.long q1), .second, .val (.long q2), .second, .val (.long q3), .second, .val (.int p4), .val (.int p5), .val (.int p6), .val (.int (2 : Int32)), .val (.ref b142), .val (.ref b149), .val (.int vv), .val (.int kk), .val (.int bb), .unset, .unset, .unset] [])) _
          exact k
        refine EndsQ.go (b := T153.setTop (mkF m 108 #[.val (.long q1), .second, .val (.long q2), .second, .val (.long q3), .second, .val (.int p4), .val (.int p5), .val (.int p6), .val (.int (2 : Int32)), .val (.ref b142), .val (.ref b149), .val (.int vv), .val (.int kk), .val (.int bb), .unset, .unset, .unset] [(.int kk)])) (fun t k => ?_) ?_
        · show Steps p.tables e below (T153.setTop (mkF m 106 #[.val (.long q1), .second, .val (.long q2), .second, .val (.long q3), .second, .val (.int p4), .val (.int p5), .val (.int p6), .val (.int (2 : Int32)), .val (.ref b142), .val (.ref b149), .val (.int vv), .val (.int kk), .val (.int bb), .unset, .unset, .unset] [])) _
          refine XS.iload X153.here hx rfl (hb hby at_106) rfl ?_
          show Steps p.tables e below (T153.setTop (mkF m 108 #[.val (.long q1), .second, .val (.long q2), .second, .val (.long q3), .second, .val (.int p4), .val (.int p5), .val (.int p6), .val (.int (2 : Int32)), .val (.ref b142), .val (.ref b149), .val (.int vv), .val (.int kk), .val (.int bb), .unset, .unset, .unset] [(.int kk)])) _
          exact k
        refine EndsQ.go (b := T153.setTop (mkF m 127 #[.val (.long q1), .second, .val (.long q2), .second, .val (.long q3), .second, .val (.int p4), .val (.int p5), .val (.int p6), .val (.int (2 : Int32)), .val (.ref b142), .val (.ref b149), .val (.int vv), .val (.int kk), .val (.int bb), .unset, .unset, .unset] [(.long (if kk = (0 : Int32) then q1 else (if kk = (1 : Int32) then q2 else q3)))])) (fun t k => ?_) ?_
        · by_cases hc108_171 : kk = (0 : Int32)
          · refine XS.ifNo X153.here hx rfl (hb hby at_108) rfl ((if0 _ _).trans (teq hc108_171).2) ?_
            show Steps p.tables e below (T153.setTop (mkF m 111 #[.val (.long q1), .second, .val (.long q2), .second, .val (.long q3), .second, .val (.int p4), .val (.int p5), .val (.int p6), .val (.int (2 : Int32)), .val (.ref b142), .val (.ref b149), .val (.int vv), .val (.int kk), .val (.int bb), .unset, .unset, .unset] [])) _
            refine XS.lloadN X153.here hx rfl (hb hby at_111) rfl ?_
            show Steps p.tables e below (T153.setTop (mkF m 112 #[.val (.long q1), .second, .val (.long q2), .second, .val (.long q3), .second, .val (.int p4), .val (.int p5), .val (.int p6), .val (.int (2 : Int32)), .val (.ref b142), .val (.ref b149), .val (.int vv), .val (.int kk), .val (.int bb), .unset, .unset, .unset] [(.long q1)])) _
            refine XS.goto X153.here hx rfl (pc0 := 112) (pc' := 127) rfl (hb hby at_112) (by decide) (by decide) ?_
            show Steps p.tables e below (T153.setTop (mkF m 127 #[.val (.long q1), .second, .val (.long q2), .second, .val (.long q3), .second, .val (.int p4), .val (.int p5), .val (.int p6), .val (.int (2 : Int32)), .val (.ref b142), .val (.ref b149), .val (.int vv), .val (.int kk), .val (.int bb), .unset, .unset, .unset] [(.long q1)])) _
            have j0 : (if kk = (0 : Int32) then q1 else (if kk = (1 : Int32) then q2 else q3)) = q1 := by rw [if_pos hc108_171]
            rw [j0] at k
            exact k
          · refine XS.ifYes X153.here hx rfl (pc0 := 108) (pc' := 115) rfl (hb hby at_108) rfl ((if0 _ _).trans (feq hc108_171).2) (by decide) (by decide) ?_
            show Steps p.tables e below (T153.setTop (mkF m 115 #[.val (.long q1), .second, .val (.long q2), .second, .val (.long q3), .second, .val (.int p4), .val (.int p5), .val (.int p6), .val (.int (2 : Int32)), .val (.ref b142), .val (.ref b149), .val (.int vv), .val (.int kk), .val (.int bb), .unset, .unset, .unset] [])) _
            refine XS.iload X153.here hx rfl (hb hby at_115) rfl ?_
            show Steps p.tables e below (T153.setTop (mkF m 117 #[.val (.long q1), .second, .val (.long q2), .second, .val (.long q3), .second, .val (.int p4), .val (.int p5), .val (.int p6), .val (.int (2 : Int32)), .val (.ref b142), .val (.ref b149), .val (.int vv), .val (.int kk), .val (.int bb), .unset, .unset, .unset] [(.int kk)])) _
            refine XS.iconst X153.here hx rfl (hb hby at_117) ?_
            show Steps p.tables e below (T153.setTop (mkF m 118 #[.val (.long q1), .second, .val (.long q2), .second, .val (.long q3), .second, .val (.int p4), .val (.int p5), .val (.int p6), .val (.int (2 : Int32)), .val (.ref b142), .val (.ref b149), .val (.int vv), .val (.int kk), .val (.int bb), .unset, .unset, .unset] [(.int (1 : Int32)), (.int kk)])) _
            by_cases hc118_172 : kk = (1 : Int32)
            · refine XS.icmpNo X153.here hx rfl (hb hby at_118) rfl (teq hc118_172).2 ?_
              show Steps p.tables e below (T153.setTop (mkF m 121 #[.val (.long q1), .second, .val (.long q2), .second, .val (.long q3), .second, .val (.int p4), .val (.int p5), .val (.int p6), .val (.int (2 : Int32)), .val (.ref b142), .val (.ref b149), .val (.int vv), .val (.int kk), .val (.int bb), .unset, .unset, .unset] [])) _
              refine XS.lloadN X153.here hx rfl (hb hby at_121) rfl ?_
              show Steps p.tables e below (T153.setTop (mkF m 122 #[.val (.long q1), .second, .val (.long q2), .second, .val (.long q3), .second, .val (.int p4), .val (.int p5), .val (.int p6), .val (.int (2 : Int32)), .val (.ref b142), .val (.ref b149), .val (.int vv), .val (.int kk), .val (.int bb), .unset, .unset, .unset] [(.long q2)])) _
              refine XS.goto X153.here hx rfl (pc0 := 122) (pc' := 127) rfl (hb hby at_122) (by decide) (by decide) ?_
              show Steps p.tables e below (T153.setTop (mkF m 127 #[.val (.long q1), .second, .val (.long q2), .second, .val (.long q3), .second, .val (.int p4), .val (.int p5), .val (.int p6), .val (.int (2 : Int32)), .val (.ref b142), .val (.ref b149), .val (.int vv), .val (.int kk), .val (.int bb), .unset, .unset, .unset] [(.long q2)])) _
              have j0 : (if kk = (0 : Int32) then q1 else (if kk = (1 : Int32) then q2 else q3)) = q2 := by rw [if_neg hc108_171, if_pos hc118_172]
              rw [j0] at k
              exact k
            · refine XS.icmpYes X153.here hx rfl (pc0 := 118) (pc' := 125) rfl (hb hby at_118) rfl (feq hc118_172).2 (by decide) (by decide) ?_
              show Steps p.tables e below (T153.setTop (mkF m 125 #[.val (.long q1), .second, .val (.long q2), .second, .val (.long q3), .second, .val (.int p4), .val (.int p5), .val (.int p6), .val (.int (2 : Int32)), .val (.ref b142), .val (.ref b149), .val (.int vv), .val (.int kk), .val (.int bb), .unset, .unset, .unset] [])) _
              refine XS.lload X153.here hx rfl (hb hby at_125) rfl ?_
              show Steps p.tables e below (T153.setTop (mkF m 127 #[.val (.long q1), .second, .val (.long q2), .second, .val (.long q3), .second, .val (.int p4), .val (.int p5), .val (.int p6), .val (.int (2 : Int32)), .val (.ref b142), .val (.ref b149), .val (.int vv), .val (.int kk), .val (.int bb), .unset, .unset, .unset] [(.long q3)])) _
              have j0 : (if kk = (0 : Int32) then q1 else (if kk = (1 : Int32) then q2 else q3)) = q3 := by rw [if_neg hc108_171, if_neg hc118_172]
              rw [j0] at k
              exact k
        generalize hv_ww : (if kk = (0 : Int32) then q1 else (if kk = (1 : Int32) then q2 else q3)) = ww
        show EndsQ _ _ _ _ _ _ _ (T153.setTop (mkF m 127 #[.val (.long q1), .second, .val (.long q2), .second, .val (.long q3), .second, .val (.int p4), .val (.int p5), .val (.int p6), .val (.int (2 : Int32)), .val (.ref b142), .val (.ref b149), .val (.int vv), .val (.int kk), .val (.int bb), .unset, .unset, .unset] [(.long ww)]))
        refine EndsQ.go (b := T153.setTop (mkF m 138 #[.val (.long q1), .second, .val (.long q2), .second, .val (.long q3), .second, .val (.int p4), .val (.int p5), .val (.int p6), .val (.int (2 : Int32)), .val (.ref b142), .val (.ref b149), .val (.int vv), .val (.int kk), .val (.int bb), .unset, .val (.long ww), .second] [(.int (lcmpW (ww &&& ((1 : Int64) <<< (bb &&& 0x3f).toInt64)) (0 : Int64)))])) (fun t k => ?_) ?_
        · show Steps p.tables e below (T153.setTop (mkF m 127 #[.val (.long q1), .second, .val (.long q2), .second, .val (.long q3), .second, .val (.int p4), .val (.int p5), .val (.int p6), .val (.int (2 : Int32)), .val (.ref b142), .val (.ref b149), .val (.int vv), .val (.int kk), .val (.int bb), .unset, .unset, .unset] [(.long ww)])) _
          refine XS.lstore X153.here hx rfl (hb hby at_127) rfl (l' := #[.val (.long q1), .second, .val (.long q2), .second, .val (.long q3), .second, .val (.int p4), .val (.int p5), .val (.int p6), .val (.int (2 : Int32)), .val (.ref b142), .val (.ref b149), .val (.int vv), .val (.int kk), .val (.int bb), .unset, .val (.long ww), .second]) rfl ?_
          show Steps p.tables e below (T153.setTop (mkF m 129 #[.val (.long q1), .second, .val (.long q2), .second, .val (.long q3), .second, .val (.int p4), .val (.int p5), .val (.int p6), .val (.int (2 : Int32)), .val (.ref b142), .val (.ref b149), .val (.int vv), .val (.int kk), .val (.int bb), .unset, .val (.long ww), .second] [])) _
          refine XS.lload X153.here hx rfl (hb hby at_129) rfl ?_
          show Steps p.tables e below (T153.setTop (mkF m 131 #[.val (.long q1), .second, .val (.long q2), .second, .val (.long q3), .second, .val (.int p4), .val (.int p5), .val (.int p6), .val (.int (2 : Int32)), .val (.ref b142), .val (.ref b149), .val (.int vv), .val (.int kk), .val (.int bb), .unset, .val (.long ww), .second] [(.long ww)])) _
          refine XS.lconst X153.here hx rfl (hb hby at_131) ?_
          show Steps p.tables e below (T153.setTop (mkF m 132 #[.val (.long q1), .second, .val (.long q2), .second, .val (.long q3), .second, .val (.int p4), .val (.int p5), .val (.int p6), .val (.int (2 : Int32)), .val (.ref b142), .val (.ref b149), .val (.int vv), .val (.int kk), .val (.int bb), .unset, .val (.long ww), .second] [(.long (1 : Int64)), (.long ww)])) _
          refine XS.iload X153.here hx rfl (hb hby at_132) rfl ?_
          show Steps p.tables e below (T153.setTop (mkF m 134 #[.val (.long q1), .second, .val (.long q2), .second, .val (.long q3), .second, .val (.int p4), .val (.int p5), .val (.int p6), .val (.int (2 : Int32)), .val (.ref b142), .val (.ref b149), .val (.int vv), .val (.int kk), .val (.int bb), .unset, .val (.long ww), .second] [(.int bb), (.long (1 : Int64)), (.long ww)])) _
          refine XS.lshl X153.here hx rfl (hb hby at_134) rfl ?_
          show Steps p.tables e below (T153.setTop (mkF m 135 #[.val (.long q1), .second, .val (.long q2), .second, .val (.long q3), .second, .val (.int p4), .val (.int p5), .val (.int p6), .val (.int (2 : Int32)), .val (.ref b142), .val (.ref b149), .val (.int vv), .val (.int kk), .val (.int bb), .unset, .val (.long ww), .second] [(.long ((1 : Int64) <<< (bb &&& 0x3f).toInt64)), (.long ww)])) _
          refine XS.land X153.here hx rfl (hb hby at_135) rfl ?_
          show Steps p.tables e below (T153.setTop (mkF m 136 #[.val (.long q1), .second, .val (.long q2), .second, .val (.long q3), .second, .val (.int p4), .val (.int p5), .val (.int p6), .val (.int (2 : Int32)), .val (.ref b142), .val (.ref b149), .val (.int vv), .val (.int kk), .val (.int bb), .unset, .val (.long ww), .second] [(.long (ww &&& ((1 : Int64) <<< (bb &&& 0x3f).toInt64)))])) _
          refine XS.lconst X153.here hx rfl (hb hby at_136) ?_
          show Steps p.tables e below (T153.setTop (mkF m 137 #[.val (.long q1), .second, .val (.long q2), .second, .val (.long q3), .second, .val (.int p4), .val (.int p5), .val (.int p6), .val (.int (2 : Int32)), .val (.ref b142), .val (.ref b149), .val (.int vv), .val (.int kk), .val (.int bb), .unset, .val (.long ww), .second] [(.long (0 : Int64)), (.long (ww &&& ((1 : Int64) <<< (bb &&& 0x3f).toInt64)))])) _
          refine XS.lcmp X153.here hx rfl (hb hby at_137) rfl ?_
          show Steps p.tables e below (T153.setTop (mkF m 138 #[.val (.long q1), .second, .val (.long q2), .second, .val (.long q3), .second, .val (.int p4), .val (.int p5), .val (.int p6), .val (.int (2 : Int32)), .val (.ref b142), .val (.ref b149), .val (.int vv), .val (.int kk), .val (.int bb), .unset, .val (.long ww), .second] [(.int (lcmpW (ww &&& ((1 : Int64) <<< (bb &&& 0x3f).toInt64)) (0 : Int64)))])) _
          exact k
        refine EndsQ.go (b := T153.setTop (mkF m 146 #[.val (.long q1), .second, .val (.long q2), .second, .val (.long q3), .second, .val (.int p4), .val (.int p5), .val (.int p6), .val (.int (2 : Int32)), .val (.ref b142), .val (.ref b149), .val (.int vv), .val (.int kk), .val (.int bb), .unset, .val (.long ww), .second] [(.int (if (ww &&& ((1 : Int64) <<< (bb &&& 0x3f).toInt64)) = (0 : Int64) then (0 : Int32) else (1 : Int32)))])) (fun t k => ?_) ?_
        · by_cases hc138_173 : (ww &&& ((1 : Int64) <<< (bb &&& 0x3f).toInt64)) = (0 : Int64)
          · refine XS.ifYes X153.here hx rfl (pc0 := 138) (pc' := 145) rfl (hb hby at_138) rfl ((if0 _ _).trans (teq ((lw_eq (ww &&& ((1 : Int64) <<< (bb &&& 0x3f).toInt64)) (0 : Int64)).mpr hc138_173)).1) (by decide) (by decide) ?_
            show Steps p.tables e below (T153.setTop (mkF m 145 #[.val (.long q1), .second, .val (.long q2), .second, .val (.long q3), .second, .val (.int p4), .val (.int p5), .val (.int p6), .val (.int (2 : Int32)), .val (.ref b142), .val (.ref b149), .val (.int vv), .val (.int kk), .val (.int bb), .unset, .val (.long ww), .second] [])) _
            refine XS.iconst X153.here hx rfl (hb hby at_145) ?_
            show Steps p.tables e below (T153.setTop (mkF m 146 #[.val (.long q1), .second, .val (.long q2), .second, .val (.long q3), .second, .val (.int p4), .val (.int p5), .val (.int p6), .val (.int (2 : Int32)), .val (.ref b142), .val (.ref b149), .val (.int vv), .val (.int kk), .val (.int bb), .unset, .val (.long ww), .second] [(.int (0 : Int32))])) _
            have j0 : (if (ww &&& ((1 : Int64) <<< (bb &&& 0x3f).toInt64)) = (0 : Int64) then (0 : Int32) else (1 : Int32)) = (0 : Int32) := by rw [if_pos hc138_173]
            rw [j0] at k
            exact k
          · refine XS.ifNo X153.here hx rfl (hb hby at_138) rfl ((if0 _ _).trans (feq (fun q => hc138_173 ((lw_eq (ww &&& ((1 : Int64) <<< (bb &&& 0x3f).toInt64)) (0 : Int64)).mp q))).1) ?_
            show Steps p.tables e below (T153.setTop (mkF m 141 #[.val (.long q1), .second, .val (.long q2), .second, .val (.long q3), .second, .val (.int p4), .val (.int p5), .val (.int p6), .val (.int (2 : Int32)), .val (.ref b142), .val (.ref b149), .val (.int vv), .val (.int kk), .val (.int bb), .unset, .val (.long ww), .second] [])) _
            refine XS.iconst X153.here hx rfl (hb hby at_141) ?_
            show Steps p.tables e below (T153.setTop (mkF m 142 #[.val (.long q1), .second, .val (.long q2), .second, .val (.long q3), .second, .val (.int p4), .val (.int p5), .val (.int p6), .val (.int (2 : Int32)), .val (.ref b142), .val (.ref b149), .val (.int vv), .val (.int kk), .val (.int bb), .unset, .val (.long ww), .second] [(.int (1 : Int32))])) _
            refine XS.goto X153.here hx rfl (pc0 := 142) (pc' := 146) rfl (hb hby at_142) (by decide) (by decide) ?_
            show Steps p.tables e below (T153.setTop (mkF m 146 #[.val (.long q1), .second, .val (.long q2), .second, .val (.long q3), .second, .val (.int p4), .val (.int p5), .val (.int p6), .val (.int (2 : Int32)), .val (.ref b142), .val (.ref b149), .val (.int vv), .val (.int kk), .val (.int bb), .unset, .val (.long ww), .second] [(.int (1 : Int32))])) _
            have j0 : (if (ww &&& ((1 : Int64) <<< (bb &&& 0x3f).toInt64)) = (0 : Int64) then (0 : Int32) else (1 : Int32)) = (1 : Int32) := by rw [if_neg hc138_173]
            rw [j0] at k
            exact k
        generalize hv_ee : (if (ww &&& ((1 : Int64) <<< (bb &&& 0x3f).toInt64)) = (0 : Int64) then (0 : Int32) else (1 : Int32)) = ee
        show EndsQ _ _ _ _ _ _ _ (T153.setTop (mkF m 146 #[.val (.long q1), .second, .val (.long q2), .second, .val (.long q3), .second, .val (.int p4), .val (.int p5), .val (.int p6), .val (.int (2 : Int32)), .val (.ref b142), .val (.ref b149), .val (.int vv), .val (.int kk), .val (.int bb), .unset, .val (.long ww), .second] [(.int ee)]))
        refine EndsQ.go (b := T153.setTop (mkF m 152 #[.val (.long q1), .second, .val (.long q2), .second, .val (.long q3), .second, .val (.int p4), .val (.int p5), .val (.int p6), .val (.int (2 : Int32)), .val (.ref b142), .val (.ref b149), .val (.int vv), .val (.int kk), .val (.int bb), .val (.int ee), .val (.long ww), .second] [(.int vv), (.ref b149)])) (fun t k => ?_) ?_
        · show Steps p.tables e below (T153.setTop (mkF m 146 #[.val (.long q1), .second, .val (.long q2), .second, .val (.long q3), .second, .val (.int p4), .val (.int p5), .val (.int p6), .val (.int (2 : Int32)), .val (.ref b142), .val (.ref b149), .val (.int vv), .val (.int kk), .val (.int bb), .unset, .val (.long ww), .second] [(.int ee)])) _
          refine XS.istore X153.here hx rfl (hb hby at_146) rfl (l' := #[.val (.long q1), .second, .val (.long q2), .second, .val (.long q3), .second, .val (.int p4), .val (.int p5), .val (.int p6), .val (.int (2 : Int32)), .val (.ref b142), .val (.ref b149), .val (.int vv), .val (.int kk), .val (.int bb), .val (.int ee), .val (.long ww), .second]) rfl ?_
          show Steps p.tables e below (T153.setTop (mkF m 148 #[.val (.long q1), .second, .val (.long q2), .second, .val (.long q3), .second, .val (.int p4), .val (.int p5), .val (.int p6), .val (.int (2 : Int32)), .val (.ref b142), .val (.ref b149), .val (.int vv), .val (.int kk), .val (.int bb), .val (.int ee), .val (.long ww), .second] [])) _
          refine XS.aload X153.here hx rfl (hb hby at_148) rfl rfl ?_
          show Steps p.tables e below (T153.setTop (mkF m 150 #[.val (.long q1), .second, .val (.long q2), .second, .val (.long q3), .second, .val (.int p4), .val (.int p5), .val (.int p6), .val (.int (2 : Int32)), .val (.ref b142), .val (.ref b149), .val (.int vv), .val (.int kk), .val (.int bb), .val (.int ee), .val (.long ww), .second] [(.ref b149)])) _
          refine XS.iload X153.here hx rfl (hb hby at_150) rfl ?_
          show Steps p.tables e below (T153.setTop (mkF m 152 #[.val (.long q1), .second, .val (.long q2), .second, .val (.long q3), .second, .val (.int p4), .val (.int p5), .val (.int p6), .val (.int (2 : Int32)), .val (.ref b142), .val (.ref b149), .val (.int vv), .val (.int kk), .val (.int bb), .val (.int ee), .val (.long ww), .second] [(.int vv), (.ref b149)])) _
          exact k
        have hsel : own_w vv < (0 : Int32) → (¬ own_w vv < 0 ∧ own_w vv < (0 : Int32)) ∧ ([] : List Value).getD (own_w vv).toNatClampNeg (.long (0 : Int64)) = .long ww := by
          intro hlt
          rw [hkw.1] at hlt ⊢
          rw [← hv_ww]
          rcases own_c3 kk hkw.2 with q | q | q | q
          · rw [q] at hlt ⊢; exact absurd hlt (by decide)
          · rw [q] at hlt ⊢; exact absurd hlt (by decide)
          · rw [q] at hlt ⊢; exact absurd hlt (by decide)
          · exact absurd hlt (own_gt2 kk (0 : Int32) q (by decide))
        have hz0 : ¬ kk < (0 : Int32) → ww = 0 := by
          intro hlt
          rw [← hv_ww]
          rcases own_c3 kk hkw.2 with q | q | q | q
          · rw [q] at hlt hc97_170 ⊢; exact hz0
          · rw [q] at hlt hc97_170 ⊢; exact hz1
          · rw [q] at hlt hc97_170 ⊢; exact absurd hc97_170 (by decide)
          · exact absurd hc97_170 (own_gt2 kk (2 : Int32) q (by decide))
        obtain ⟨cq174, kq174, qa174, qb174, qc174⟩ := isOf hZ rfl Ex153
        obtain ⟨_, _, ⟨T174, L174, kk174, nn174⟩, -, X174, ⟨Lc174, hQ174, l174, y174, z174⟩, st174⟩ := X153.virtualBack hx (y := (⟨"com/example/sextant/sextant/ValueSet", "contains", "(I)Z"⟩ : MethodName)) (z := (⟨"com/example/sextant/sextant/ValueSet", "contains", "(I)Z"⟩ : MethodName)) hown (mvT hZ (hw _ (List.mem_of_getElem? (i := 13) rfl))) (mvT hZ (hw _ (List.mem_of_getElem? (i := 14) rfl))) (notFace_of_selects (args := #[]) (mvT hZ (hw _ (List.mem_of_getElem? (i := 16) rfl)))) (mvT hZ (hw _ (List.mem_of_getElem? (i := 16) rfl))) (mvT hZ (hw _ (List.mem_of_getElem? (i := 15) rfl))) (by decide) (backOf (W := 0) (rm3 l Z a0 hw [] b149 vv c153 kc153 (0 : Int32) [] ww T153.heap n0 f154 Fx153 Vx153 hsel) hZ (hw _ (List.mem_of_getElem? (i := 17) rfl)) (hw _ (List.mem_of_getElem? (i := 3) rfl)) (by decide) (by decide)) qa174 qc174 (g := (mkF m 152 #[.val (.long q1), .second, .val (.long q2), .second, .val (.long q3), .second, .val (.int p4), .val (.int p5), .val (.int p6), .val (.int (2 : Int32)), .val (.ref b142), .val (.ref b149), .val (.int vv), .val (.int kk), .val (.int bb), .val (.int ee), .val (.long ww), .second] [(.int vv), (.ref b149)])) rfl (by rw [hml]; rfl) (Steps.refl _) (argsL := [(.int vv)]) (rest := []) (lenOf pd_3 rfl) rfl (by show 2 * 0 + _ ≤ _; exact Nat.le_of_eq rfl) (hb hby at_152) (fun _ _ => ⟨rfl, rfl, (by decide : 3 + 0 ≤ _), (by decide : 5 + 0 ≤ _)⟩)
        dsimp only [Pt.U, Pt.locs, Pt.cells, Pt.slots] at X174 l174 y174 z174 st174 hQ174
        subst l174 y174 z174
        obtain ⟨rfl, Nq174, eq174⟩ := hQ174
        have N174 := Fr.app N153 Nq174
        refine EndsQ.go (fun t k => st174.trans k) ?_
        show EndsQ _ _ _ _ _ _ _ (T174.setTop (mkF m 155 #[.val (.long q1), .second, .val (.long q2), .second, .val (.long q3), .second, .val (.int p4), .val (.int p5), .val (.int p6), .val (.int (2 : Int32)), .val (.ref b142), .val (.ref b149), .val (.int vv), .val (.int kk), .val (.int bb), .val (.int ee), .val (.long ww), .second] [(.int (own_has vv (0 : Int32) ww))]))
        refine EndsQ.go (b := T174.setTop (mkF m 165 #[.val (.long q1), .second, .val (.long q2), .second, .val (.long q3), .second, .val (.int p4), .val (.int p5), .val (.int p6), .val (.int (2 : Int32)), .val (.ref b142), .val (.ref b149), .val (.int vv), .val (.int kk), .val (.int bb), .val (.int ee), .val (.long ww), .second] [(.int (1 : Int32))])) (fun t k => ?_) ?_
        · show Steps p.tables e below (T174.setTop (mkF m 155 #[.val (.long q1), .second, .val (.long q2), .second, .val (.long q3), .second, .val (.int p4), .val (.int p5), .val (.int p6), .val (.int (2 : Int32)), .val (.ref b142), .val (.ref b149), .val (.int vv), .val (.int kk), .val (.int bb), .val (.int ee), .val (.long ww), .second] [(.int (own_has vv (0 : Int32) ww))])) _
          refine XS.iload X174.here hx rfl (hb hby at_155) rfl ?_
          show Steps p.tables e below (T174.setTop (mkF m 157 #[.val (.long q1), .second, .val (.long q2), .second, .val (.long q3), .second, .val (.int p4), .val (.int p5), .val (.int p6), .val (.int (2 : Int32)), .val (.ref b142), .val (.ref b149), .val (.int vv), .val (.int kk), .val (.int bb), .val (.int ee), .val (.long ww), .second] [(.int ee), (.int (own_has vv (0 : Int32) ww))])) _
          refine XS.icmpNo X174.here hx rfl (hb hby at_157) rfl (teq ((own_hasB vv (0 : Int32) kk bb ww hb_v hkw.1 hv_bb hz0).trans hv_ee)).2 ?_
          show Steps p.tables e below (T174.setTop (mkF m 160 #[.val (.long q1), .second, .val (.long q2), .second, .val (.long q3), .second, .val (.int p4), .val (.int p5), .val (.int p6), .val (.int (2 : Int32)), .val (.ref b142), .val (.ref b149), .val (.int vv), .val (.int kk), .val (.int bb), .val (.int ee), .val (.long ww), .second] [])) _
          refine XS.iconst X174.here hx rfl (hb hby at_160) ?_
          show Steps p.tables e below (T174.setTop (mkF m 161 #[.val (.long q1), .second, .val (.long q2), .second, .val (.long q3), .second, .val (.int p4), .val (.int p5), .val (.int p6), .val (.int (2 : Int32)), .val (.ref b142), .val (.ref b149), .val (.int vv), .val (.int kk), .val (.int bb), .val (.int ee), .val (.long ww), .second] [(.int (1 : Int32))])) _
          refine XS.goto X174.here hx rfl (pc0 := 161) (pc' := 165) rfl (hb hby at_161) (by decide) (by decide) ?_
          show Steps p.tables e below (T174.setTop (mkF m 165 #[.val (.long q1), .second, .val (.long q2), .second, .val (.long q3), .second, .val (.int p4), .val (.int p5), .val (.int p6), .val (.int (2 : Int32)), .val (.ref b142), .val (.ref b149), .val (.int vv), .val (.int kk), .val (.int bb), .val (.int ee), .val (.long ww), .second] [(.int (1 : Int32))])) _
          exact k
        refine EndsQ.retN X174 hx Bd.notSynchronized (t := .boolean) Bd.returns (by simp) (hb hby at_165) (by decide) (by decide) ?_
        show Q0 Z q1 q2 q3 p4 p5 p6 h0 n0 (some (.int (nar .boolean (1 : Int32)))) T174.heap _
        rw [eq174]
        exact ⟨rfl, N174⟩
      · refine EndsQ.go (b := T153.setTop (mkF m 100 #[.val (.long q1), .second, .val (.long q2), .second, .val (.long q3), .second, .val (.int p4), .val (.int p5), .val (.int p6), .val (.int (2 : Int32)), .val (.ref b142), .val (.ref b149), .val (.int vv), .val (.int kk), .val (.int bb), .unset, .unset, .unset] [])) (fun t k => ?_) ?_
        · show Steps p.tables e below (T153.setTop (mkF m 97 #[.val (.long q1), .second, .val (.long q2), .second, .val (.long q3), .second, .val (.int p4), .val (.int p5), .val (.int p6), .val (.int (2 : Int32)), .val (.ref b142), .val (.ref b149), .val (.int vv), .val (.int kk), .val (.int bb), .unset, .unset, .unset] [(.int (2 : Int32)), (.int kk)])) _
          refine XS.icmpNo X153.here hx rfl (hb hby at_97) rfl (flt hc97_170).1 ?_
          show Steps p.tables e below (T153.setTop (mkF m 100 #[.val (.long q1), .second, .val (.long q2), .second, .val (.long q3), .second, .val (.int p4), .val (.int p5), .val (.int p6), .val (.int (2 : Int32)), .val (.ref b142), .val (.ref b149), .val (.int vv), .val (.int kk), .val (.int bb), .unset, .unset, .unset] [])) _
          exact k
        refine EndsQ.go (b := T153.setTop (mkF m 152 #[.val (.long q1), .second, .val (.long q2), .second, .val (.long q3), .second, .val (.int p4), .val (.int p5), .val (.int p6), .val (.int (2 : Int32)), .val (.ref b142), .val (.ref b149), .val (.int vv), .val (.int kk), .val (.int bb), .val (.int (0 : Int32)), .unset, .unset] [(.int vv), (.ref b149)])) (fun t k => ?_) ?_
        · show Steps p.tables e below (T153.setTop (mkF m 100 #[.val (.long q1), .second, .val (.long q2), .second, .val (.long q3), .second, .val (.int p4), .val (.int p5), .val (.int p6), .val (.int (2 : Int32)), .val (.ref b142), .val (.ref b149), .val (.int vv), .val (.int kk), .val (.int bb), .unset, .unset, .unset] [])) _
          refine XS.iconst X153.here hx rfl (hb hby at_100) ?_
          show Steps p.tables e below (T153.setTop (mkF m 101 #[.val (.long q1), .second, .val (.long q2), .second, .val (.long q3), .second, .val (.int p4), .val (.int p5), .val (.int p6), .val (.int (2 : Int32)), .val (.ref b142), .val (.ref b149), .val (.int vv), .val (.int kk), .val (.int bb), .unset, .unset, .unset] [(.int (0 : Int32))])) _
          refine XS.istore X153.here hx rfl (hb hby at_101) rfl (l' := #[.val (.long q1), .second, .val (.long q2), .second, .val (.long q3), .second, .val (.int p4), .val (.int p5), .val (.int p6), .val (.int (2 : Int32)), .val (.ref b142), .val (.ref b149), .val (.int vv), .val (.int kk), .val (.int bb), .val (.int (0 : Int32)), .unset, .unset]) rfl ?_
          show Steps p.tables e below (T153.setTop (mkF m 103 #[.val (.long q1), .second, .val (.long q2), .second, .val (.long q3), .second, .val (.int p4), .val (.int p5), .val (.int p6), .val (.int (2 : Int32)), .val (.ref b142), .val (.ref b149), .val (.int vv), .val (.int kk), .val (.int bb), .val (.int (0 : Int32)), .unset, .unset] [])) _
          refine XS.goto X153.here hx rfl (pc0 := 103) (pc' := 148) rfl (hb hby at_103) (by decide) (by decide) ?_
          show Steps p.tables e below (T153.setTop (mkF m 148 #[.val (.long q1), .second, .val (.long q2), .second, .val (.long q3), .second, .val (.int p4), .val (.int p5), .val (.int p6), .val (.int (2 : Int32)), .val (.ref b142), .val (.ref b149), .val (.int vv), .val (.int kk), .val (.int bb), .val (.int (0 : Int32)), .unset, .unset] [])) _
          refine XS.aload X153.here hx rfl (hb hby at_148) rfl rfl ?_
          show Steps p.tables e below (T153.setTop (mkF m 150 #[.val (.long q1), .second, .val (.long q2), .second, .val (.long q3), .second, .val (.int p4), .val (.int p5), .val (.int p6), .val (.int (2 : Int32)), .val (.ref b142), .val (.ref b149), .val (.int vv), .val (.int kk), .val (.int bb), .val (.int (0 : Int32)), .unset, .unset] [(.ref b149)])) _
          refine XS.iload X153.here hx rfl (hb hby at_150) rfl ?_
          show Steps p.tables e below (T153.setTop (mkF m 152 #[.val (.long q1), .second, .val (.long q2), .second, .val (.long q3), .second, .val (.int p4), .val (.int p5), .val (.int p6), .val (.int (2 : Int32)), .val (.ref b142), .val (.ref b149), .val (.int vv), .val (.int kk), .val (.int bb), .val (.int (0 : Int32)), .unset, .unset] [(.int vv), (.ref b149)])) _
          exact k
        obtain ⟨cq175, kq175, qa175, qb175, qc175⟩ := isOf hZ rfl Ex153
        obtain ⟨_, _, ⟨T175, L175, kk175, nn175⟩, -, X175, ⟨Lc175, hQ175, l175, y175, z175⟩, st175⟩ := X153.virtualBack hx (y := (⟨"com/example/sextant/sextant/ValueSet", "contains", "(I)Z"⟩ : MethodName)) (z := (⟨"com/example/sextant/sextant/ValueSet", "contains", "(I)Z"⟩ : MethodName)) hown (mvT hZ (hw _ (List.mem_of_getElem? (i := 13) rfl))) (mvT hZ (hw _ (List.mem_of_getElem? (i := 14) rfl))) (notFace_of_selects (args := #[]) (mvT hZ (hw _ (List.mem_of_getElem? (i := 16) rfl)))) (mvT hZ (hw _ (List.mem_of_getElem? (i := 16) rfl))) (mvT hZ (hw _ (List.mem_of_getElem? (i := 15) rfl))) (by decide) (backOf (W := 0) (rm3 l Z a0 hw [] b149 vv c153 kc153 (0 : Int32) [] (0 : Int64) T153.heap n0 f154 Fx153 Vx153 (fun hlt => absurd hlt (by rw [hkw.1]; exact own_mono kk (2 : Int32) (0 : Int32) hc97_170 (by decide)))) hZ (hw _ (List.mem_of_getElem? (i := 17) rfl)) (hw _ (List.mem_of_getElem? (i := 3) rfl)) (by decide) (by decide)) qa175 qc175 (g := (mkF m 152 #[.val (.long q1), .second, .val (.long q2), .second, .val (.long q3), .second, .val (.int p4), .val (.int p5), .val (.int p6), .val (.int (2 : Int32)), .val (.ref b142), .val (.ref b149), .val (.int vv), .val (.int kk), .val (.int bb), .val (.int (0 : Int32)), .unset, .unset] [(.int vv), (.ref b149)])) rfl (by rw [hml]; rfl) (Steps.refl _) (argsL := [(.int vv)]) (rest := []) (lenOf pd_3 rfl) rfl (by show 2 * 0 + _ ≤ _; exact Nat.le_of_eq rfl) (hb hby at_152) (fun _ _ => ⟨rfl, rfl, (by decide : 3 + 0 ≤ _), (by decide : 5 + 0 ≤ _)⟩)
        dsimp only [Pt.U, Pt.locs, Pt.cells, Pt.slots] at X175 l175 y175 z175 st175 hQ175
        subst l175 y175 z175
        obtain ⟨rfl, Nq175, eq175⟩ := hQ175
        have N175 := Fr.app N153 Nq175
        refine EndsQ.go (fun t k => st175.trans k) ?_
        show EndsQ _ _ _ _ _ _ _ (T175.setTop (mkF m 155 #[.val (.long q1), .second, .val (.long q2), .second, .val (.long q3), .second, .val (.int p4), .val (.int p5), .val (.int p6), .val (.int (2 : Int32)), .val (.ref b142), .val (.ref b149), .val (.int vv), .val (.int kk), .val (.int bb), .val (.int (0 : Int32)), .unset, .unset] [(.int (own_has vv (0 : Int32) (0 : Int64)))]))
        refine EndsQ.go (b := T175.setTop (mkF m 165 #[.val (.long q1), .second, .val (.long q2), .second, .val (.long q3), .second, .val (.int p4), .val (.int p5), .val (.int p6), .val (.int (2 : Int32)), .val (.ref b142), .val (.ref b149), .val (.int vv), .val (.int kk), .val (.int bb), .val (.int (0 : Int32)), .unset, .unset] [(.int (1 : Int32))])) (fun t k => ?_) ?_
        · show Steps p.tables e below (T175.setTop (mkF m 155 #[.val (.long q1), .second, .val (.long q2), .second, .val (.long q3), .second, .val (.int p4), .val (.int p5), .val (.int p6), .val (.int (2 : Int32)), .val (.ref b142), .val (.ref b149), .val (.int vv), .val (.int kk), .val (.int bb), .val (.int (0 : Int32)), .unset, .unset] [(.int (own_has vv (0 : Int32) (0 : Int64)))])) _
          refine XS.iload X175.here hx rfl (hb hby at_155) rfl ?_
          show Steps p.tables e below (T175.setTop (mkF m 157 #[.val (.long q1), .second, .val (.long q2), .second, .val (.long q3), .second, .val (.int p4), .val (.int p5), .val (.int p6), .val (.int (2 : Int32)), .val (.ref b142), .val (.ref b149), .val (.int vv), .val (.int kk), .val (.int bb), .val (.int (0 : Int32)), .unset, .unset] [(.int (0 : Int32)), (.int (own_has vv (0 : Int32) (0 : Int64)))])) _
          refine XS.icmpNo X175.here hx rfl (hb hby at_157) rfl (teq (own_hasA vv (0 : Int32) kk (0 : Int64) hkw.1 (own_mono kk (2 : Int32) (0 : Int32) hc97_170 (by decide)))).2 ?_
          show Steps p.tables e below (T175.setTop (mkF m 160 #[.val (.long q1), .second, .val (.long q2), .second, .val (.long q3), .second, .val (.int p4), .val (.int p5), .val (.int p6), .val (.int (2 : Int32)), .val (.ref b142), .val (.ref b149), .val (.int vv), .val (.int kk), .val (.int bb), .val (.int (0 : Int32)), .unset, .unset] [])) _
          refine XS.iconst X175.here hx rfl (hb hby at_160) ?_
          show Steps p.tables e below (T175.setTop (mkF m 161 #[.val (.long q1), .second, .val (.long q2), .second, .val (.long q3), .second, .val (.int p4), .val (.int p5), .val (.int p6), .val (.int (2 : Int32)), .val (.ref b142), .val (.ref b149), .val (.int vv), .val (.int kk), .val (.int bb), .val (.int (0 : Int32)), .unset, .unset] [(.int (1 : Int32))])) _
          refine XS.goto X175.here hx rfl (pc0 := 161) (pc' := 165) rfl (hb hby at_161) (by decide) (by decide) ?_
          show Steps p.tables e below (T175.setTop (mkF m 165 #[.val (.long q1), .second, .val (.long q2), .second, .val (.long q3), .second, .val (.int p4), .val (.int p5), .val (.int p6), .val (.int (2 : Int32)), .val (.ref b142), .val (.ref b149), .val (.int vv), .val (.int kk), .val (.int bb), .val (.int (0 : Int32)), .unset, .unset] [(.int (1 : Int32))])) _
          exact k
        refine EndsQ.retN X175 hx Bd.notSynchronized (t := .boolean) Bd.returns (by simp) (hb hby at_165) (by decide) (by decide) ?_
        show Q0 Z q1 q2 q3 p4 p5 p6 h0 n0 (some (.int (nar .boolean (1 : Int32)))) T175.heap _
        rw [eq175]
        exact ⟨rfl, N175⟩
  · subst hk3
    show EndsQ _ _ _ _ _ _ _ (s₁.setTop (mkF m 6 #[.val (.long q1), .second, .val (.long q2), .second, .val (.long q3), .second, .val (.int p4), .val (.int p5), .val (.int p6), .val (.int (3 : Int32)), .unset, .unset, .unset, .unset, .unset, .unset, .unset, .unset] []))
    refine EndsQ.go (b := s₁.setTop (mkF m 8 #[.val (.long q1), .second, .val (.long q2), .second, .val (.long q3), .second, .val (.int p4), .val (.int p5), .val (.int p6), .val (.int (3 : Int32)), .unset, .unset, .unset, .unset, .unset, .unset, .unset, .unset] [(.int (3 : Int32))])) (fun t k => ?_) ?_
    · show Steps p.tables e below (s₁.setTop (mkF m 6 #[.val (.long q1), .second, .val (.long q2), .second, .val (.long q3), .second, .val (.int p4), .val (.int p5), .val (.int p6), .val (.int (3 : Int32)), .unset, .unset, .unset, .unset, .unset, .unset, .unset, .unset] [])) _
      refine XS.iload X0.here hx rfl (hb hby at_6) rfl ?_
      show Steps p.tables e below (s₁.setTop (mkF m 8 #[.val (.long q1), .second, .val (.long q2), .second, .val (.long q3), .second, .val (.int p4), .val (.int p5), .val (.int p6), .val (.int (3 : Int32)), .unset, .unset, .unset, .unset, .unset, .unset, .unset, .unset] [(.int (3 : Int32))])) _
      exact k
    obtain ⟨T176, h176, k176, X176, e176, E176, A176, st176⟩ := newP X0 hx hZ (hw _ (List.mem_of_getElem? (i := 0) rfl)) e0 (g := (mkF m 8 #[.val (.long q1), .second, .val (.long q2), .second, .val (.long q3), .second, .val (.int p4), .val (.int p5), .val (.int p6), .val (.int (3 : Int32)), .unset, .unset, .unset, .unset, .unset, .unset, .unset, .unset] [(.int (3 : Int32))])) rfl (hb hby at_8) rfl (by decide) (cap := 3) (by decide) (by decide) (by decide) (by decide)
    obtain ⟨b176, g176⟩ : ∃ z, z = h0.size := ⟨_, rfl⟩
    rw [← g176] at A176 st176
    have gn176 : n0 ≤ b176 := Nat.le_trans Z0 (Nat.le_of_eq g176.symm)
    have f177 : n0 ≤ h176.size := Nat.le_trans Z0 E176.1
    have f178 : Arv Z h176 b176 k176 .long (3 : Int32) [(.long (0 : Int64)), (.long (0 : Int64)), (.long (0 : Int64))] (.long (0 : Int64)) := (Arv.new A176 (by decide)).pad (pad_rep [] (.long (0 : Int64)) 3)
    refine EndsQ.go st176 ?_
    show EndsQ _ _ _ _ _ _ _ (T176.setTop (mkF m 10 #[.val (.long q1), .second, .val (.long q2), .second, .val (.long q3), .second, .val (.int p4), .val (.int p5), .val (.int p6), .val (.int (3 : Int32)), .unset, .unset, .unset, .unset, .unset, .unset, .unset, .unset] [(.ref b176)]))
    refine EndsQ.go (b := T176.setTop (mkF m 21 #[.val (.long q1), .second, .val (.long q2), .second, .val (.long q3), .second, .val (.int p4), .val (.int p5), .val (.int p6), .val (.int (3 : Int32)), .val (.ref b176), .unset, .unset, .unset, .unset, .unset, .unset, .unset] [(.long q1), (.int (0 : Int32)), (.ref b176)])) (fun t k => ?_) ?_
    · show Steps p.tables e below (T176.setTop (mkF m 10 #[.val (.long q1), .second, .val (.long q2), .second, .val (.long q3), .second, .val (.int p4), .val (.int p5), .val (.int p6), .val (.int (3 : Int32)), .unset, .unset, .unset, .unset, .unset, .unset, .unset, .unset] [(.ref b176)])) _
      refine XS.astore X176.here hx rfl (hb hby at_10) rfl rfl (l' := #[.val (.long q1), .second, .val (.long q2), .second, .val (.long q3), .second, .val (.int p4), .val (.int p5), .val (.int p6), .val (.int (3 : Int32)), .val (.ref b176), .unset, .unset, .unset, .unset, .unset, .unset, .unset]) rfl ?_
      show Steps p.tables e below (T176.setTop (mkF m 12 #[.val (.long q1), .second, .val (.long q2), .second, .val (.long q3), .second, .val (.int p4), .val (.int p5), .val (.int p6), .val (.int (3 : Int32)), .val (.ref b176), .unset, .unset, .unset, .unset, .unset, .unset, .unset] [])) _
      refine XS.iload X176.here hx rfl (hb hby at_12) rfl ?_
      show Steps p.tables e below (T176.setTop (mkF m 14 #[.val (.long q1), .second, .val (.long q2), .second, .val (.long q3), .second, .val (.int p4), .val (.int p5), .val (.int p6), .val (.int (3 : Int32)), .val (.ref b176), .unset, .unset, .unset, .unset, .unset, .unset, .unset] [(.int (3 : Int32))])) _
      refine XS.ifNo X176.here hx rfl (hb hby at_14) rfl ((if0 _ _).trans (tlt (by decide)).2.2.2) ?_
      show Steps p.tables e below (T176.setTop (mkF m 17 #[.val (.long q1), .second, .val (.long q2), .second, .val (.long q3), .second, .val (.int p4), .val (.int p5), .val (.int p6), .val (.int (3 : Int32)), .val (.ref b176), .unset, .unset, .unset, .unset, .unset, .unset, .unset] [])) _
      refine XS.aload X176.here hx rfl (hb hby at_17) rfl rfl ?_
      show Steps p.tables e below (T176.setTop (mkF m 19 #[.val (.long q1), .second, .val (.long q2), .second, .val (.long q3), .second, .val (.int p4), .val (.int p5), .val (.int p6), .val (.int (3 : Int32)), .val (.ref b176), .unset, .unset, .unset, .unset, .unset, .unset, .unset] [(.ref b176)])) _
      refine XS.iconst X176.here hx rfl (hb hby at_19) ?_
      show Steps p.tables e below (T176.setTop (mkF m 20 #[.val (.long q1), .second, .val (.long q2), .second, .val (.long q3), .second, .val (.int p4), .val (.int p5), .val (.int p6), .val (.int (3 : Int32)), .val (.ref b176), .unset, .unset, .unset, .unset, .unset, .unset, .unset] [(.int (0 : Int32)), (.ref b176)])) _
      refine XS.lloadN X176.here hx rfl (hb hby at_20) rfl ?_
      show Steps p.tables e below (T176.setTop (mkF m 21 #[.val (.long q1), .second, .val (.long q2), .second, .val (.long q3), .second, .val (.int p4), .val (.int p5), .val (.int p6), .val (.int (3 : Int32)), .val (.ref b176), .unset, .unset, .unset, .unset, .unset, .unset, .unset] [(.long q1), (.int (0 : Int32)), (.ref b176)])) _
      exact k
    obtain ⟨cl179, Ar179, q179, S179, M179, H179, G179⟩ := id f178
    have hin179 : ¬ ((0 : Int32) < 0 ∨ cl179.slots.size ≤ ((0 : Int32)).toNatClampNeg) := inb_of S179 ⟨by decide, by decide⟩
    obtain ⟨T179, h179, X179, e179, W179, st179⟩ := stJ X176 hx hZ e176 Ar179 (j := (0 : Int32)) hin179 (g := (mkF m 21 #[.val (.long q1), .second, .val (.long q2), .second, .val (.long q3), .second, .val (.int p4), .val (.int p5), .val (.int p6), .val (.int (3 : Int32)), .val (.ref b176), .unset, .unset, .unset, .unset, .unset, .unset, .unset] [(.long q1), (.int (0 : Int32)), (.ref b176)])) rfl rfl (hb hby at_21)
    have fa179 : Arv Z h179 b176 k176 .long (3 : Int32) [(.long q1), (.long (0 : Int64)), (.long (0 : Int64))] (.long (0 : Int64)) := Arv.set Ar179 q179 S179 M179 H179 G179 rfl W179 0 rfl (Nat.le_of_ble_eq_true rfl)
    have f180 : n0 ≤ h179.size := Nat.le_trans f177 (Keep.of_wr W179).1
    have N179 := Fr.snoc X179 N0 gn176
    refine EndsQ.go st179 ?_
    show EndsQ _ _ _ _ _ _ _ (T179.setTop (mkF m 22 #[.val (.long q1), .second, .val (.long q2), .second, .val (.long q3), .second, .val (.int p4), .val (.int p5), .val (.int p6), .val (.int (3 : Int32)), .val (.ref b176), .unset, .unset, .unset, .unset, .unset, .unset, .unset] []))
    refine EndsQ.go (b := T179.setTop (mkF m 32 #[.val (.long q1), .second, .val (.long q2), .second, .val (.long q3), .second, .val (.int p4), .val (.int p5), .val (.int p6), .val (.int (3 : Int32)), .val (.ref b176), .unset, .unset, .unset, .unset, .unset, .unset, .unset] [(.long q2), (.int (1 : Int32)), (.ref b176)])) (fun t k => ?_) ?_
    · show Steps p.tables e below (T179.setTop (mkF m 22 #[.val (.long q1), .second, .val (.long q2), .second, .val (.long q3), .second, .val (.int p4), .val (.int p5), .val (.int p6), .val (.int (3 : Int32)), .val (.ref b176), .unset, .unset, .unset, .unset, .unset, .unset, .unset] [])) _
      refine XS.iload X179.here hx rfl (hb hby at_22) rfl ?_
      show Steps p.tables e below (T179.setTop (mkF m 24 #[.val (.long q1), .second, .val (.long q2), .second, .val (.long q3), .second, .val (.int p4), .val (.int p5), .val (.int p6), .val (.int (3 : Int32)), .val (.ref b176), .unset, .unset, .unset, .unset, .unset, .unset, .unset] [(.int (3 : Int32))])) _
      refine XS.iconst X179.here hx rfl (hb hby at_24) ?_
      show Steps p.tables e below (T179.setTop (mkF m 25 #[.val (.long q1), .second, .val (.long q2), .second, .val (.long q3), .second, .val (.int p4), .val (.int p5), .val (.int p6), .val (.int (3 : Int32)), .val (.ref b176), .unset, .unset, .unset, .unset, .unset, .unset, .unset] [(.int (1 : Int32)), (.int (3 : Int32))])) _
      refine XS.icmpNo X179.here hx rfl (hb hby at_25) rfl (tlt (by decide)).2.2.2 ?_
      show Steps p.tables e below (T179.setTop (mkF m 28 #[.val (.long q1), .second, .val (.long q2), .second, .val (.long q3), .second, .val (.int p4), .val (.int p5), .val (.int p6), .val (.int (3 : Int32)), .val (.ref b176), .unset, .unset, .unset, .unset, .unset, .unset, .unset] [])) _
      refine XS.aload X179.here hx rfl (hb hby at_28) rfl rfl ?_
      show Steps p.tables e below (T179.setTop (mkF m 30 #[.val (.long q1), .second, .val (.long q2), .second, .val (.long q3), .second, .val (.int p4), .val (.int p5), .val (.int p6), .val (.int (3 : Int32)), .val (.ref b176), .unset, .unset, .unset, .unset, .unset, .unset, .unset] [(.ref b176)])) _
      refine XS.iconst X179.here hx rfl (hb hby at_30) ?_
      show Steps p.tables e below (T179.setTop (mkF m 31 #[.val (.long q1), .second, .val (.long q2), .second, .val (.long q3), .second, .val (.int p4), .val (.int p5), .val (.int p6), .val (.int (3 : Int32)), .val (.ref b176), .unset, .unset, .unset, .unset, .unset, .unset, .unset] [(.int (1 : Int32)), (.ref b176)])) _
      refine XS.lloadN X179.here hx rfl (hb hby at_31) rfl ?_
      show Steps p.tables e below (T179.setTop (mkF m 32 #[.val (.long q1), .second, .val (.long q2), .second, .val (.long q3), .second, .val (.int p4), .val (.int p5), .val (.int p6), .val (.int (3 : Int32)), .val (.ref b176), .unset, .unset, .unset, .unset, .unset, .unset, .unset] [(.long q2), (.int (1 : Int32)), (.ref b176)])) _
      exact k
    obtain ⟨cl181, Ar181, q181, S181, M181, H181, G181⟩ := id fa179
    have hin181 : ¬ ((1 : Int32) < 0 ∨ cl181.slots.size ≤ ((1 : Int32)).toNatClampNeg) := inb_of S181 ⟨by decide, by decide⟩
    obtain ⟨T181, h181, X181, e181, W181, st181⟩ := stJ X179 hx hZ e179 Ar181 (j := (1 : Int32)) hin181 (g := (mkF m 32 #[.val (.long q1), .second, .val (.long q2), .second, .val (.long q3), .second, .val (.int p4), .val (.int p5), .val (.int p6), .val (.int (3 : Int32)), .val (.ref b176), .unset, .unset, .unset, .unset, .unset, .unset, .unset] [(.long q2), (.int (1 : Int32)), (.ref b176)])) rfl rfl (hb hby at_32)
    have fa181 : Arv Z h181 b176 k176 .long (3 : Int32) [(.long q1), (.long q2), (.long (0 : Int64))] (.long (0 : Int64)) := Arv.set Ar181 q181 S181 M181 H181 G181 rfl W181 1 rfl (Nat.le_of_ble_eq_true rfl)
    have f182 : n0 ≤ h181.size := Nat.le_trans f180 (Keep.of_wr W181).1
    have N181 := Fr.snoc X181 N179 gn176
    refine EndsQ.go st181 ?_
    show EndsQ _ _ _ _ _ _ _ (T181.setTop (mkF m 33 #[.val (.long q1), .second, .val (.long q2), .second, .val (.long q3), .second, .val (.int p4), .val (.int p5), .val (.int p6), .val (.int (3 : Int32)), .val (.ref b176), .unset, .unset, .unset, .unset, .unset, .unset, .unset] []))
    refine EndsQ.go (b := T181.setTop (mkF m 44 #[.val (.long q1), .second, .val (.long q2), .second, .val (.long q3), .second, .val (.int p4), .val (.int p5), .val (.int p6), .val (.int (3 : Int32)), .val (.ref b176), .unset, .unset, .unset, .unset, .unset, .unset, .unset] [(.long q3), (.int (2 : Int32)), (.ref b176)])) (fun t k => ?_) ?_
    · show Steps p.tables e below (T181.setTop (mkF m 33 #[.val (.long q1), .second, .val (.long q2), .second, .val (.long q3), .second, .val (.int p4), .val (.int p5), .val (.int p6), .val (.int (3 : Int32)), .val (.ref b176), .unset, .unset, .unset, .unset, .unset, .unset, .unset] [])) _
      refine XS.iload X181.here hx rfl (hb hby at_33) rfl ?_
      show Steps p.tables e below (T181.setTop (mkF m 35 #[.val (.long q1), .second, .val (.long q2), .second, .val (.long q3), .second, .val (.int p4), .val (.int p5), .val (.int p6), .val (.int (3 : Int32)), .val (.ref b176), .unset, .unset, .unset, .unset, .unset, .unset, .unset] [(.int (3 : Int32))])) _
      refine XS.iconst X181.here hx rfl (hb hby at_35) ?_
      show Steps p.tables e below (T181.setTop (mkF m 36 #[.val (.long q1), .second, .val (.long q2), .second, .val (.long q3), .second, .val (.int p4), .val (.int p5), .val (.int p6), .val (.int (3 : Int32)), .val (.ref b176), .unset, .unset, .unset, .unset, .unset, .unset, .unset] [(.int (2 : Int32)), (.int (3 : Int32))])) _
      refine XS.icmpNo X181.here hx rfl (hb hby at_36) rfl (tlt (by decide)).2.2.2 ?_
      show Steps p.tables e below (T181.setTop (mkF m 39 #[.val (.long q1), .second, .val (.long q2), .second, .val (.long q3), .second, .val (.int p4), .val (.int p5), .val (.int p6), .val (.int (3 : Int32)), .val (.ref b176), .unset, .unset, .unset, .unset, .unset, .unset, .unset] [])) _
      refine XS.aload X181.here hx rfl (hb hby at_39) rfl rfl ?_
      show Steps p.tables e below (T181.setTop (mkF m 41 #[.val (.long q1), .second, .val (.long q2), .second, .val (.long q3), .second, .val (.int p4), .val (.int p5), .val (.int p6), .val (.int (3 : Int32)), .val (.ref b176), .unset, .unset, .unset, .unset, .unset, .unset, .unset] [(.ref b176)])) _
      refine XS.iconst X181.here hx rfl (hb hby at_41) ?_
      show Steps p.tables e below (T181.setTop (mkF m 42 #[.val (.long q1), .second, .val (.long q2), .second, .val (.long q3), .second, .val (.int p4), .val (.int p5), .val (.int p6), .val (.int (3 : Int32)), .val (.ref b176), .unset, .unset, .unset, .unset, .unset, .unset, .unset] [(.int (2 : Int32)), (.ref b176)])) _
      refine XS.lload X181.here hx rfl (hb hby at_42) rfl ?_
      show Steps p.tables e below (T181.setTop (mkF m 44 #[.val (.long q1), .second, .val (.long q2), .second, .val (.long q3), .second, .val (.int p4), .val (.int p5), .val (.int p6), .val (.int (3 : Int32)), .val (.ref b176), .unset, .unset, .unset, .unset, .unset, .unset, .unset] [(.long q3), (.int (2 : Int32)), (.ref b176)])) _
      exact k
    obtain ⟨cl183, Ar183, q183, S183, M183, H183, G183⟩ := id fa181
    have hin183 : ¬ ((2 : Int32) < 0 ∨ cl183.slots.size ≤ ((2 : Int32)).toNatClampNeg) := inb_of S183 ⟨by decide, by decide⟩
    obtain ⟨T183, h183, X183, e183, W183, st183⟩ := stJ X181 hx hZ e181 Ar183 (j := (2 : Int32)) hin183 (g := (mkF m 44 #[.val (.long q1), .second, .val (.long q2), .second, .val (.long q3), .second, .val (.int p4), .val (.int p5), .val (.int p6), .val (.int (3 : Int32)), .val (.ref b176), .unset, .unset, .unset, .unset, .unset, .unset, .unset] [(.long q3), (.int (2 : Int32)), (.ref b176)])) rfl rfl (hb hby at_44)
    have fa183 : Arv Z h183 b176 k176 .long (3 : Int32) [(.long q1), (.long q2), (.long q3)] (.long (0 : Int64)) := Arv.set Ar183 q183 S183 M183 H183 G183 rfl W183 2 rfl (Nat.le_of_ble_eq_true rfl)
    have f184 : n0 ≤ h183.size := Nat.le_trans f182 (Keep.of_wr W183).1
    have N183 := Fr.snoc X183 N181 gn176
    refine EndsQ.go st183 ?_
    show EndsQ _ _ _ _ _ _ _ (T183.setTop (mkF m 45 #[.val (.long q1), .second, .val (.long q2), .second, .val (.long q3), .second, .val (.int p4), .val (.int p5), .val (.int p6), .val (.int (3 : Int32)), .val (.ref b176), .unset, .unset, .unset, .unset, .unset, .unset, .unset] []))
    obtain ⟨T185, h185, X185, e185, E185, A185, D185, -, st185⟩ := newO X183 hx hZ hown (hw _ (List.mem_of_getElem? (i := 1) rfl)) (hw _ (List.mem_of_getElem? (i := 2) rfl)) (hw _ (List.mem_of_getElem? (i := 3) rfl)) e183 (g := (mkF m 45 #[.val (.long q1), .second, .val (.long q2), .second, .val (.long q3), .second, .val (.int p4), .val (.int p5), .val (.int p6), .val (.int (3 : Int32)), .val (.ref b176), .unset, .unset, .unset, .unset, .unset, .unset, .unset] [])) rfl (hb hby at_45) (by decide) (by decide)
    obtain ⟨b185, g185⟩ : ∃ z, z = h183.size := ⟨_, rfl⟩
    rw [← g185] at A185 D185 st185
    have gn185 : n0 ≤ b185 := Nat.le_trans f184 (Nat.le_of_eq g185.symm)
    have ne185_b176 : b176 ≠ b185 := Nat.ne_of_lt (Nat.lt_of_lt_of_le fa183.lt (Nat.le_of_eq g185.symm))
    have f186 : n0 ≤ h185.size := Nat.le_trans f184 E185.1
    have f187 : Arv Z h185 b176 k176 .long (3 : Int32) [(.long q1), (.long q2), (.long q3)] (.long (0 : Int64)) := fa183.ext E185
    have f188 : Fld Z h185 b185 "com/example/sextant/sextant/ValueSet" "words" "[J" .null := D185 (Or.inr (hw _ (List.mem_of_getElem? (i := 11) rfl))) (ty := (.array .long)) (by decide)
    refine EndsQ.go st185 ?_
    show EndsQ _ _ _ _ _ _ _ (T185.setTop (mkF m 48 #[.val (.long q1), .second, .val (.long q2), .second, .val (.long q3), .second, .val (.int p4), .val (.int p5), .val (.int p6), .val (.int (3 : Int32)), .val (.ref b176), .unset, .unset, .unset, .unset, .unset, .unset, .unset] [(.ref b185)]))
    refine EndsQ.go (b := T185.setTop (mkF m 51 #[.val (.long q1), .second, .val (.long q2), .second, .val (.long q3), .second, .val (.int p4), .val (.int p5), .val (.int p6), .val (.int (3 : Int32)), .val (.ref b176), .unset, .unset, .unset, .unset, .unset, .unset, .unset] [(.ref b176), (.ref b185), (.ref b185)])) (fun t k => ?_) ?_
    · show Steps p.tables e below (T185.setTop (mkF m 48 #[.val (.long q1), .second, .val (.long q2), .second, .val (.long q3), .second, .val (.int p4), .val (.int p5), .val (.int p6), .val (.int (3 : Int32)), .val (.ref b176), .unset, .unset, .unset, .unset, .unset, .unset, .unset] [(.ref b185)])) _
      refine XS.dup X185.here hx rfl (hb hby at_48) rfl rfl ?_
      show Steps p.tables e below (T185.setTop (mkF m 49 #[.val (.long q1), .second, .val (.long q2), .second, .val (.long q3), .second, .val (.int p4), .val (.int p5), .val (.int p6), .val (.int (3 : Int32)), .val (.ref b176), .unset, .unset, .unset, .unset, .unset, .unset, .unset] [(.ref b185), (.ref b185)])) _
      refine XS.aload X185.here hx rfl (hb hby at_49) rfl rfl ?_
      show Steps p.tables e below (T185.setTop (mkF m 51 #[.val (.long q1), .second, .val (.long q2), .second, .val (.long q3), .second, .val (.int p4), .val (.int p5), .val (.int p6), .val (.int (3 : Int32)), .val (.ref b176), .unset, .unset, .unset, .unset, .unset, .unset, .unset] [(.ref b176), (.ref b185), (.ref b185)])) _
      exact k
    obtain ⟨_, _, ⟨T189, L189, kk189, nn189⟩, -, X189, ⟨Lc189, hQ189, l189, y189, z189⟩, st189⟩ := X185.specialBack hx (y := (⟨"com/example/sextant/sextant/ValueSet", "<init>", "([J)V"⟩ : MethodName)) rfl hown (mvT hZ (hw _ (List.mem_of_getElem? (i := 4) rfl))) (mvT hZ (hw _ (List.mem_of_getElem? (i := 5) rfl))) (mvT hZ (hw _ (List.mem_of_getElem? (i := 6) rfl))) (by decide) (backOf (W := 1) (rmI3 l Z a0 hw [] b185 b176 k176 q1 q2 q3 h185 n0 f186 f188 A185 gn185 f187 (Ne.symm ne185_b176)) hZ (hw _ (List.mem_of_getElem? (i := 6) rfl)) (hw _ (List.mem_of_getElem? (i := 3) rfl)) (by decide) (by decide)) (g := (mkF m 51 #[.val (.long q1), .second, .val (.long q2), .second, .val (.long q3), .second, .val (.int p4), .val (.int p5), .val (.int p6), .val (.int (3 : Int32)), .val (.ref b176), .unset, .unset, .unset, .unset, .unset, .unset, .unset] [(.ref b176), (.ref b185), (.ref b185)])) rfl (by rw [hml]; rfl) (Steps.refl _) (a := b185) (argsL := [(.ref b176)]) (rest := [(.ref b185)]) (lenOf pd_2 rfl) rfl (by show 2 * 0 + _ ≤ _; exact Nat.le_of_eq rfl) (hb hby at_51) (fun _ _ => ⟨rfl, e185, (by decide : 2 + 1 ≤ _), (by decide : 4 + 2 ≤ _)⟩)
    dsimp only [Pt.U, Pt.locs, Pt.cells, Pt.slots] at X189 l189 y189 z189 st189 hQ189
    subst l189 y189 z189
    obtain ⟨c189, kc189, m189, vs189, rfl, Nq189, Kc189, Ex189, Fx189, Vx189, rel189⟩ := hQ189
    have N189 := Fr.app N183 Nq189
    have f190 : n0 ≤ T189.heap.size := Nat.le_trans f186 Kc189.1
    refine EndsQ.go (fun t k => st189.trans k) ?_
    show EndsQ _ _ _ _ _ _ _ (T189.setTop (mkF m 54 #[.val (.long q1), .second, .val (.long q2), .second, .val (.long q3), .second, .val (.int p4), .val (.int p5), .val (.int p6), .val (.int (3 : Int32)), .val (.ref b176), .unset, .unset, .unset, .unset, .unset, .unset, .unset] [(.ref b185)]))
    rcases rel189 with ⟨rfl, rfl⟩ | ⟨hz2, rfl, rfl⟩ | ⟨hz2, hz1, rfl, rfl⟩ | ⟨hz2, hz1, hz0, rfl, rfl⟩
    · have ht3 := trivial
      refine EndsQ.go (b := T189.setTop (mkF m 60 #[.val (.long q1), .second, .val (.long q2), .second, .val (.long q3), .second, .val (.int p4), .val (.int p5), .val (.int p6), .val (.int (3 : Int32)), .val (.ref b176), .val (.ref b185), .unset, .unset, .unset, .unset, .unset, .unset] [(.int (p6 &&& (1 : Int32)))])) (fun t k => ?_) ?_
      · show Steps p.tables e below (T189.setTop (mkF m 54 #[.val (.long q1), .second, .val (.long q2), .second, .val (.long q3), .second, .val (.int p4), .val (.int p5), .val (.int p6), .val (.int (3 : Int32)), .val (.ref b176), .unset, .unset, .unset, .unset, .unset, .unset, .unset] [(.ref b185)])) _
        refine XS.astore X189.here hx rfl (hb hby at_54) rfl rfl (l' := #[.val (.long q1), .second, .val (.long q2), .second, .val (.long q3), .second, .val (.int p4), .val (.int p5), .val (.int p6), .val (.int (3 : Int32)), .val (.ref b176), .val (.ref b185), .unset, .unset, .unset, .unset, .unset, .unset]) rfl ?_
        show Steps p.tables e below (T189.setTop (mkF m 56 #[.val (.long q1), .second, .val (.long q2), .second, .val (.long q3), .second, .val (.int p4), .val (.int p5), .val (.int p6), .val (.int (3 : Int32)), .val (.ref b176), .val (.ref b185), .unset, .unset, .unset, .unset, .unset, .unset] [])) _
        refine XS.iload X189.here hx rfl (hb hby at_56) rfl ?_
        show Steps p.tables e below (T189.setTop (mkF m 58 #[.val (.long q1), .second, .val (.long q2), .second, .val (.long q3), .second, .val (.int p4), .val (.int p5), .val (.int p6), .val (.int (3 : Int32)), .val (.ref b176), .val (.ref b185), .unset, .unset, .unset, .unset, .unset, .unset] [(.int p6)])) _
        refine XS.iconst X189.here hx rfl (hb hby at_58) ?_
        show Steps p.tables e below (T189.setTop (mkF m 59 #[.val (.long q1), .second, .val (.long q2), .second, .val (.long q3), .second, .val (.int p4), .val (.int p5), .val (.int p6), .val (.int (3 : Int32)), .val (.ref b176), .val (.ref b185), .unset, .unset, .unset, .unset, .unset, .unset] [(.int (1 : Int32)), (.int p6)])) _
        refine XS.iand X189.here hx rfl (hb hby at_59) rfl ?_
        show Steps p.tables e below (T189.setTop (mkF m 60 #[.val (.long q1), .second, .val (.long q2), .second, .val (.long q3), .second, .val (.int p4), .val (.int p5), .val (.int p6), .val (.int (3 : Int32)), .val (.ref b176), .val (.ref b185), .unset, .unset, .unset, .unset, .unset, .unset] [(.int (p6 &&& (1 : Int32)))])) _
        exact k
      refine EndsQ.go (b := T189.setTop (mkF m 77 #[.val (.long q1), .second, .val (.long q2), .second, .val (.long q3), .second, .val (.int p4), .val (.int p5), .val (.int p6), .val (.int (3 : Int32)), .val (.ref b176), .val (.ref b185), .unset, .unset, .unset, .unset, .unset, .unset] [(.int (if (p6 &&& (1 : Int32)) = (0 : Int32) then (p5 &&& (255 : Int32)) else (p5 &&& (2147483647 : Int32))))])) (fun t k => ?_) ?_
      · by_cases hc60_191 : (p6 &&& (1 : Int32)) = (0 : Int32)
        · refine XS.ifYes X189.here hx rfl (pc0 := 60) (pc' := 71) rfl (hb hby at_60) rfl ((if0 _ _).trans (teq hc60_191).1) (by decide) (by decide) ?_
          show Steps p.tables e below (T189.setTop (mkF m 71 #[.val (.long q1), .second, .val (.long q2), .second, .val (.long q3), .second, .val (.int p4), .val (.int p5), .val (.int p6), .val (.int (3 : Int32)), .val (.ref b176), .val (.ref b185), .unset, .unset, .unset, .unset, .unset, .unset] [])) _
          refine XS.iload X189.here hx rfl (hb hby at_71) rfl ?_
          show Steps p.tables e below (T189.setTop (mkF m 73 #[.val (.long q1), .second, .val (.long q2), .second, .val (.long q3), .second, .val (.int p4), .val (.int p5), .val (.int p6), .val (.int (3 : Int32)), .val (.ref b176), .val (.ref b185), .unset, .unset, .unset, .unset, .unset, .unset] [(.int p5)])) _
          refine XS.sipush X189.here hx rfl (hb hby at_73) ?_
          show Steps p.tables e below (T189.setTop (mkF m 76 #[.val (.long q1), .second, .val (.long q2), .second, .val (.long q3), .second, .val (.int p4), .val (.int p5), .val (.int p6), .val (.int (3 : Int32)), .val (.ref b176), .val (.ref b185), .unset, .unset, .unset, .unset, .unset, .unset] [(.int (255 : Int32)), (.int p5)])) _
          refine XS.iand X189.here hx rfl (hb hby at_76) rfl ?_
          show Steps p.tables e below (T189.setTop (mkF m 77 #[.val (.long q1), .second, .val (.long q2), .second, .val (.long q3), .second, .val (.int p4), .val (.int p5), .val (.int p6), .val (.int (3 : Int32)), .val (.ref b176), .val (.ref b185), .unset, .unset, .unset, .unset, .unset, .unset] [(.int (p5 &&& (255 : Int32)))])) _
          have j0 : (if (p6 &&& (1 : Int32)) = (0 : Int32) then (p5 &&& (255 : Int32)) else (p5 &&& (2147483647 : Int32))) = (p5 &&& (255 : Int32)) := by rw [if_pos hc60_191]
          rw [j0] at k
          exact k
        · refine XS.ifNo X189.here hx rfl (hb hby at_60) rfl ((if0 _ _).trans (feq hc60_191).1) ?_
          show Steps p.tables e below (T189.setTop (mkF m 63 #[.val (.long q1), .second, .val (.long q2), .second, .val (.long q3), .second, .val (.int p4), .val (.int p5), .val (.int p6), .val (.int (3 : Int32)), .val (.ref b176), .val (.ref b185), .unset, .unset, .unset, .unset, .unset, .unset] [])) _
          refine XS.iload X189.here hx rfl (hb hby at_63) rfl ?_
          show Steps p.tables e below (T189.setTop (mkF m 65 #[.val (.long q1), .second, .val (.long q2), .second, .val (.long q3), .second, .val (.int p4), .val (.int p5), .val (.int p6), .val (.int (3 : Int32)), .val (.ref b176), .val (.ref b185), .unset, .unset, .unset, .unset, .unset, .unset] [(.int p5)])) _
          refine X189.ldcInt hx hown (mvT hZ (hw _ (List.mem_of_getElem? (i := 12) rfl))) (g := (mkF m 65 #[.val (.long q1), .second, .val (.long q2), .second, .val (.long q3), .second, .val (.int p4), .val (.int p5), .val (.int p6), .val (.int (3 : Int32)), .val (.ref b176), .val (.ref b185), .unset, .unset, .unset, .unset, .unset, .unset] [(.int p5)])) rfl (hb hby at_65) _ ?_
          show Steps p.tables e below (T189.setTop (mkF m 67 #[.val (.long q1), .second, .val (.long q2), .second, .val (.long q3), .second, .val (.int p4), .val (.int p5), .val (.int p6), .val (.int (3 : Int32)), .val (.ref b176), .val (.ref b185), .unset, .unset, .unset, .unset, .unset, .unset] [(.int (2147483647 : Int32)), (.int p5)])) _
          refine XS.iand X189.here hx rfl (hb hby at_67) rfl ?_
          show Steps p.tables e below (T189.setTop (mkF m 68 #[.val (.long q1), .second, .val (.long q2), .second, .val (.long q3), .second, .val (.int p4), .val (.int p5), .val (.int p6), .val (.int (3 : Int32)), .val (.ref b176), .val (.ref b185), .unset, .unset, .unset, .unset, .unset, .unset] [(.int (p5 &&& (2147483647 : Int32)))])) _
          refine XS.goto X189.here hx rfl (pc0 := 68) (pc' := 77) rfl (hb hby at_68) (by decide) (by decide) ?_
          show Steps p.tables e below (T189.setTop (mkF m 77 #[.val (.long q1), .second, .val (.long q2), .second, .val (.long q3), .second, .val (.int p4), .val (.int p5), .val (.int p6), .val (.int (3 : Int32)), .val (.ref b176), .val (.ref b185), .unset, .unset, .unset, .unset, .unset, .unset] [(.int (p5 &&& (2147483647 : Int32)))])) _
          have j0 : (if (p6 &&& (1 : Int32)) = (0 : Int32) then (p5 &&& (255 : Int32)) else (p5 &&& (2147483647 : Int32))) = (p5 &&& (2147483647 : Int32)) := by rw [if_neg hc60_191]
          rw [j0] at k
          exact k
      generalize hv_vv : (if (p6 &&& (1 : Int32)) = (0 : Int32) then (p5 &&& (255 : Int32)) else (p5 &&& (2147483647 : Int32))) = vv
      have hb_v : 0 ≤ vv.toInt := by rw [← hv_vv]; exact own_v p5 p6
      have hkw := own_kw vv hb_v
      show EndsQ _ _ _ _ _ _ _ (T189.setTop (mkF m 77 #[.val (.long q1), .second, .val (.long q2), .second, .val (.long q3), .second, .val (.int p4), .val (.int p5), .val (.int p6), .val (.int (3 : Int32)), .val (.ref b176), .val (.ref b185), .unset, .unset, .unset, .unset, .unset, .unset] [(.int vv)]))
      refine EndsQ.go (b := T189.setTop (mkF m 86 #[.val (.long q1), .second, .val (.long q2), .second, .val (.long q3), .second, .val (.int p4), .val (.int p5), .val (.int p6), .val (.int (3 : Int32)), .val (.ref b176), .val (.ref b185), .val (.int vv), .val (.int (vv / (64 : Int32))), .unset, .unset, .unset, .unset] [])) (fun t k => ?_) ?_
      · show Steps p.tables e below (T189.setTop (mkF m 77 #[.val (.long q1), .second, .val (.long q2), .second, .val (.long q3), .second, .val (.int p4), .val (.int p5), .val (.int p6), .val (.int (3 : Int32)), .val (.ref b176), .val (.ref b185), .unset, .unset, .unset, .unset, .unset, .unset] [(.int vv)])) _
        refine XS.istore X189.here hx rfl (hb hby at_77) rfl (l' := #[.val (.long q1), .second, .val (.long q2), .second, .val (.long q3), .second, .val (.int p4), .val (.int p5), .val (.int p6), .val (.int (3 : Int32)), .val (.ref b176), .val (.ref b185), .val (.int vv), .unset, .unset, .unset, .unset, .unset]) rfl ?_
        show Steps p.tables e below (T189.setTop (mkF m 79 #[.val (.long q1), .second, .val (.long q2), .second, .val (.long q3), .second, .val (.int p4), .val (.int p5), .val (.int p6), .val (.int (3 : Int32)), .val (.ref b176), .val (.ref b185), .val (.int vv), .unset, .unset, .unset, .unset, .unset] [])) _
        refine XS.iload X189.here hx rfl (hb hby at_79) rfl ?_
        show Steps p.tables e below (T189.setTop (mkF m 81 #[.val (.long q1), .second, .val (.long q2), .second, .val (.long q3), .second, .val (.int p4), .val (.int p5), .val (.int p6), .val (.int (3 : Int32)), .val (.ref b176), .val (.ref b185), .val (.int vv), .unset, .unset, .unset, .unset, .unset] [(.int vv)])) _
        refine XS.bipush X189.here hx rfl (hb hby at_81) ?_
        show Steps p.tables e below (T189.setTop (mkF m 83 #[.val (.long q1), .second, .val (.long q2), .second, .val (.long q3), .second, .val (.int p4), .val (.int p5), .val (.int p6), .val (.int (3 : Int32)), .val (.ref b176), .val (.ref b185), .val (.int vv), .unset, .unset, .unset, .unset, .unset] [(.int (64 : Int32)), (.int vv)])) _
        refine XS.idiv X189.here hx rfl (hb hby at_83) rfl (by decide) ?_
        show Steps p.tables e below (T189.setTop (mkF m 84 #[.val (.long q1), .second, .val (.long q2), .second, .val (.long q3), .second, .val (.int p4), .val (.int p5), .val (.int p6), .val (.int (3 : Int32)), .val (.ref b176), .val (.ref b185), .val (.int vv), .unset, .unset, .unset, .unset, .unset] [(.int (vv / (64 : Int32)))])) _
        refine XS.istore X189.here hx rfl (hb hby at_84) rfl (l' := #[.val (.long q1), .second, .val (.long q2), .second, .val (.long q3), .second, .val (.int p4), .val (.int p5), .val (.int p6), .val (.int (3 : Int32)), .val (.ref b176), .val (.ref b185), .val (.int vv), .val (.int (vv / (64 : Int32))), .unset, .unset, .unset, .unset]) rfl ?_
        show Steps p.tables e below (T189.setTop (mkF m 86 #[.val (.long q1), .second, .val (.long q2), .second, .val (.long q3), .second, .val (.int p4), .val (.int p5), .val (.int p6), .val (.int (3 : Int32)), .val (.ref b176), .val (.ref b185), .val (.int vv), .val (.int (vv / (64 : Int32))), .unset, .unset, .unset, .unset] [])) _
        exact k
      generalize hv_kk : (vv / (64 : Int32)) = kk
      rw [hv_kk] at hkw
      show EndsQ _ _ _ _ _ _ _ (T189.setTop (mkF m 86 #[.val (.long q1), .second, .val (.long q2), .second, .val (.long q3), .second, .val (.int p4), .val (.int p5), .val (.int p6), .val (.int (3 : Int32)), .val (.ref b176), .val (.ref b185), .val (.int vv), .val (.int kk), .unset, .unset, .unset, .unset] []))
      refine EndsQ.go (b := T189.setTop (mkF m 93 #[.val (.long q1), .second, .val (.long q2), .second, .val (.long q3), .second, .val (.int p4), .val (.int p5), .val (.int p6), .val (.int (3 : Int32)), .val (.ref b176), .val (.ref b185), .val (.int vv), .val (.int kk), .val (.int (vv % (64 : Int32))), .unset, .unset, .unset] [])) (fun t k => ?_) ?_
      · show Steps p.tables e below (T189.setTop (mkF m 86 #[.val (.long q1), .second, .val (.long q2), .second, .val (.long q3), .second, .val (.int p4), .val (.int p5), .val (.int p6), .val (.int (3 : Int32)), .val (.ref b176), .val (.ref b185), .val (.int vv), .val (.int kk), .unset, .unset, .unset, .unset] [])) _
        refine XS.iload X189.here hx rfl (hb hby at_86) rfl ?_
        show Steps p.tables e below (T189.setTop (mkF m 88 #[.val (.long q1), .second, .val (.long q2), .second, .val (.long q3), .second, .val (.int p4), .val (.int p5), .val (.int p6), .val (.int (3 : Int32)), .val (.ref b176), .val (.ref b185), .val (.int vv), .val (.int kk), .unset, .unset, .unset, .unset] [(.int vv)])) _
        refine XS.bipush X189.here hx rfl (hb hby at_88) ?_
        show Steps p.tables e below (T189.setTop (mkF m 90 #[.val (.long q1), .second, .val (.long q2), .second, .val (.long q3), .second, .val (.int p4), .val (.int p5), .val (.int p6), .val (.int (3 : Int32)), .val (.ref b176), .val (.ref b185), .val (.int vv), .val (.int kk), .unset, .unset, .unset, .unset] [(.int (64 : Int32)), (.int vv)])) _
        refine iremM X189 hx rfl (hb hby at_90) rfl (by decide) ?_
        show Steps p.tables e below (T189.setTop (mkF m 91 #[.val (.long q1), .second, .val (.long q2), .second, .val (.long q3), .second, .val (.int p4), .val (.int p5), .val (.int p6), .val (.int (3 : Int32)), .val (.ref b176), .val (.ref b185), .val (.int vv), .val (.int kk), .unset, .unset, .unset, .unset] [(.int (vv % (64 : Int32)))])) _
        refine XS.istore X189.here hx rfl (hb hby at_91) rfl (l' := #[.val (.long q1), .second, .val (.long q2), .second, .val (.long q3), .second, .val (.int p4), .val (.int p5), .val (.int p6), .val (.int (3 : Int32)), .val (.ref b176), .val (.ref b185), .val (.int vv), .val (.int kk), .val (.int (vv % (64 : Int32))), .unset, .unset, .unset]) rfl ?_
        show Steps p.tables e below (T189.setTop (mkF m 93 #[.val (.long q1), .second, .val (.long q2), .second, .val (.long q3), .second, .val (.int p4), .val (.int p5), .val (.int p6), .val (.int (3 : Int32)), .val (.ref b176), .val (.ref b185), .val (.int vv), .val (.int kk), .val (.int (vv % (64 : Int32))), .unset, .unset, .unset] [])) _
        exact k
      generalize hv_bb : (vv % (64 : Int32)) = bb
      show EndsQ _ _ _ _ _ _ _ (T189.setTop (mkF m 93 #[.val (.long q1), .second, .val (.long q2), .second, .val (.long q3), .second, .val (.int p4), .val (.int p5), .val (.int p6), .val (.int (3 : Int32)), .val (.ref b176), .val (.ref b185), .val (.int vv), .val (.int kk), .val (.int bb), .unset, .unset, .unset] []))
      refine EndsQ.go (b := T189.setTop (mkF m 97 #[.val (.long q1), .second, .val (.long q2), .second, .val (.long q3), .second, .val (.int p4), .val (.int p5), .val (.int p6), .val (.int (3 : Int32)), .val (.ref b176), .val (.ref b185), .val (.int vv), .val (.int kk), .val (.int bb), .unset, .unset, .unset] [(.int (3 : Int32)), (.int kk)])) (fun t k => ?_) ?_
      · show Steps p.tables e below (T189.setTop (mkF m 93 #[.val (.long q1), .second, .val (.long q2), .second, .val (.long q3), .second, .val (.int p4), .val (.int p5), .val (.int p6), .val (.int (3 : Int32)), .val (.ref b176), .val (.ref b185), .val (.int vv), .val (.int kk), .val (.int bb), .unset, .unset, .unset] [])) _
        refine XS.iload X189.here hx rfl (hb hby at_93) rfl ?_
        show Steps p.tables e below (T189.setTop (mkF m 95 #[.val (.long q1), .second, .val (.long q2), .second, .val (.long q3), .second, .val (.int p4), .val (.int p5), .val (.int p6), .val (.int (3 : Int32)), .val (.ref b176), .val (.ref b185), .val (.int vv), .val (.int kk), .val (.int bb), .unset, .unset, .unset] [(.int kk)])) _
        refine XS.iload X189.here hx rfl (hb hby at_95) rfl ?_
        show Steps p.tables e below (T189.setTop (mkF m 97 #[.val (.long q1), .second, .val (.long q2), .second, .val (.long q3), .second, .val (.int p4), .val (.int p5), .val (.int p6), .val (.int (3 : Int32)), .val (.ref b176), .val (.ref b185), .val (.int vv), .val (.int kk), .val (.int bb), .unset, .unset, .unset] [(.int (3 : Int32)), (.int kk)])) _
        exact k
      by_cases hc97_192 : kk < (3 : Int32)
      · refine EndsQ.go (b := T189.setTop (mkF m 106 #[.val (.long q1), .second, .val (.long q2), .second, .val (.long q3), .second, .val (.int p4), .val (.int p5), .val (.int p6), .val (.int (3 : Int32)), .val (.ref b176), .val (.ref b185), .val (.int vv), .val (.int kk), .val (.int bb), .unset, .unset, .unset] [])) (fun t k => ?_) ?_
        · show Steps p.tables e below (T189.setTop (mkF m 97 #[.val (.long q1), .second, .val (.long q2), .second, .val (.long q3), .second, .val (.int p4), .val (.int p5), .val (.int p6), .val (.int (3 : Int32)), .val (.ref b176), .val (.ref b185), .val (.int vv), .val (.int kk), .val (.int bb), .unset, .unset, .unset] [(.int (3 : Int32)), (.int kk)])) _
          refine XS.icmpYes X189.here hx rfl (pc0 := 97) (pc' := 106) rfl (hb hby at_97) rfl (tlt hc97_192).1 (by decide) (by decide) ?_
          show Steps p.tables e below (T189.setTop (mkF m 106 #[.val (.long q1), .second, .val (.long q2), .second, .val (.long q3), .second, .val (.int p4), .val (.int p5), .val (.int p6), .val (.int (3 : Int32)), .val (.ref b176), .val (.ref b185), .val (.int vv), .val (.int kk), .val (.int bb), .unset, .unset, .unset] [])) _
          exact k
        refine EndsQ.go (b := T189.setTop (mkF m 108 #[.val (.long q1), .second, .val (.long q2), .second, .val (.long q3), .second, .val (.int p4), .val (.int p5), .val (.int p6), .val (.int (3 : Int32)), .val (.ref b176), .val (.ref b185), .val (.int vv), .val (.int kk), .val (.int bb), .unset, .unset, .unset] [(.int kk)])) (fun t k => ?_) ?_
        · show Steps p.tables e below (T189.setTop (mkF m 106 #[.val (.long q1), .second, .val (.long q2), .second, .val (.long q3), .second, .val (.int p4), .val (.int p5), .val (.int p6), .val (.int (3 : Int32)), .val (.ref b176), .val (.ref b185), .val (.int vv), .val (.int kk), .val (.int bb), .unset, .unset, .unset] [])) _
          refine XS.iload X189.here hx rfl (hb hby at_106) rfl ?_
          show Steps p.tables e below (T189.setTop (mkF m 108 #[.val (.long q1), .second, .val (.long q2), .second, .val (.long q3), .second, .val (.int p4), .val (.int p5), .val (.int p6), .val (.int (3 : Int32)), .val (.ref b176), .val (.ref b185), .val (.int vv), .val (.int kk), .val (.int bb), .unset, .unset, .unset] [(.int kk)])) _
          exact k
        refine EndsQ.go (b := T189.setTop (mkF m 127 #[.val (.long q1), .second, .val (.long q2), .second, .val (.long q3), .second, .val (.int p4), .val (.int p5), .val (.int p6), .val (.int (3 : Int32)), .val (.ref b176), .val (.ref b185), .val (.int vv), .val (.int kk), .val (.int bb), .unset, .unset, .unset] [(.long (if kk = (0 : Int32) then q1 else (if kk = (1 : Int32) then q2 else q3)))])) (fun t k => ?_) ?_
        · by_cases hc108_193 : kk = (0 : Int32)
          · refine XS.ifNo X189.here hx rfl (hb hby at_108) rfl ((if0 _ _).trans (teq hc108_193).2) ?_
            show Steps p.tables e below (T189.setTop (mkF m 111 #[.val (.long q1), .second, .val (.long q2), .second, .val (.long q3), .second, .val (.int p4), .val (.int p5), .val (.int p6), .val (.int (3 : Int32)), .val (.ref b176), .val (.ref b185), .val (.int vv), .val (.int kk), .val (.int bb), .unset, .unset, .unset] [])) _
            refine XS.lloadN X189.here hx rfl (hb hby at_111) rfl ?_
            show Steps p.tables e below (T189.setTop (mkF m 112 #[.val (.long q1), .second, .val (.long q2), .second, .val (.long q3), .second, .val (.int p4), .val (.int p5), .val (.int p6), .val (.int (3 : Int32)), .val (.ref b176), .val (.ref b185), .val (.int vv), .val (.int kk), .val (.int bb), .unset, .unset, .unset] [(.long q1)])) _
            refine XS.goto X189.here hx rfl (pc0 := 112) (pc' := 127) rfl (hb hby at_112) (by decide) (by decide) ?_
            show Steps p.tables e below (T189.setTop (mkF m 127 #[.val (.long q1), .second, .val (.long q2), .second, .val (.long q3), .second, .val (.int p4), .val (.int p5), .val (.int p6), .val (.int (3 : Int32)), .val (.ref b176), .val (.ref b185), .val (.int vv), .val (.int kk), .val (.int bb), .unset, .unset, .unset] [(.long q1)])) _
            have j0 : (if kk = (0 : Int32) then q1 else (if kk = (1 : Int32) then q2 else q3)) = q1 := by rw [if_pos hc108_193]
            rw [j0] at k
            exact k
          · refine XS.ifYes X189.here hx rfl (pc0 := 108) (pc' := 115) rfl (hb hby at_108) rfl ((if0 _ _).trans (feq hc108_193).2) (by decide) (by decide) ?_
            show Steps p.tables e below (T189.setTop (mkF m 115 #[.val (.long q1), .second, .val (.long q2), .second, .val (.long q3), .second, .val (.int p4), .val (.int p5), .val (.int p6), .val (.int (3 : Int32)), .val (.ref b176), .val (.ref b185), .val (.int vv), .val (.int kk), .val (.int bb), .unset, .unset, .unset] [])) _
            refine XS.iload X189.here hx rfl (hb hby at_115) rfl ?_
            show Steps p.tables e below (T189.setTop (mkF m 117 #[.val (.long q1), .second, .val (.long q2), .second, .val (.long q3), .second, .val (.int p4), .val (.int p5), .val (.int p6), .val (.int (3 : Int32)), .val (.ref b176), .val (.ref b185), .val (.int vv), .val (.int kk), .val (.int bb), .unset, .unset, .unset] [(.int kk)])) _
            refine XS.iconst X189.here hx rfl (hb hby at_117) ?_
            show Steps p.tables e below (T189.setTop (mkF m 118 #[.val (.long q1), .second, .val (.long q2), .second, .val (.long q3), .second, .val (.int p4), .val (.int p5), .val (.int p6), .val (.int (3 : Int32)), .val (.ref b176), .val (.ref b185), .val (.int vv), .val (.int kk), .val (.int bb), .unset, .unset, .unset] [(.int (1 : Int32)), (.int kk)])) _
            by_cases hc118_194 : kk = (1 : Int32)
            · refine XS.icmpNo X189.here hx rfl (hb hby at_118) rfl (teq hc118_194).2 ?_
              show Steps p.tables e below (T189.setTop (mkF m 121 #[.val (.long q1), .second, .val (.long q2), .second, .val (.long q3), .second, .val (.int p4), .val (.int p5), .val (.int p6), .val (.int (3 : Int32)), .val (.ref b176), .val (.ref b185), .val (.int vv), .val (.int kk), .val (.int bb), .unset, .unset, .unset] [])) _
              refine XS.lloadN X189.here hx rfl (hb hby at_121) rfl ?_
              show Steps p.tables e below (T189.setTop (mkF m 122 #[.val (.long q1), .second, .val (.long q2), .second, .val (.long q3), .second, .val (.int p4), .val (.int p5), .val (.int p6), .val (.int (3 : Int32)), .val (.ref b176), .val (.ref b185), .val (.int vv), .val (.int kk), .val (.int bb), .unset, .unset, .unset] [(.long q2)])) _
              refine XS.goto X189.here hx rfl (pc0 := 122) (pc' := 127) rfl (hb hby at_122) (by decide) (by decide) ?_
              show Steps p.tables e below (T189.setTop (mkF m 127 #[.val (.long q1), .second, .val (.long q2), .second, .val (.long q3), .second, .val (.int p4), .val (.int p5), .val (.int p6), .val (.int (3 : Int32)), .val (.ref b176), .val (.ref b185), .val (.int vv), .val (.int kk), .val (.int bb), .unset, .unset, .unset] [(.long q2)])) _
              have j0 : (if kk = (0 : Int32) then q1 else (if kk = (1 : Int32) then q2 else q3)) = q2 := by rw [if_neg hc108_193, if_pos hc118_194]
              rw [j0] at k
              exact k
            · refine XS.icmpYes X189.here hx rfl (pc0 := 118) (pc' := 125) rfl (hb hby at_118) rfl (feq hc118_194).2 (by decide) (by decide) ?_
              show Steps p.tables e below (T189.setTop (mkF m 125 #[.val (.long q1), .second, .val (.long q2), .second, .val (.long q3), .second, .val (.int p4), .val (.int p5), .val (.int p6), .val (.int (3 : Int32)), .val (.ref b176), .val (.ref b185), .val (.int vv), .val (.int kk), .val (.int bb), .unset, .unset, .unset] [])) _
              refine XS.lload X189.here hx rfl (hb hby at_125) rfl ?_
              show Steps p.tables e below (T189.setTop (mkF m 127 #[.val (.long q1), .second, .val (.long q2), .second, .val (.long q3), .second, .val (.int p4), .val (.int p5), .val (.int p6), .val (.int (3 : Int32)), .val (.ref b176), .val (.ref b185), .val (.int vv), .val (.int kk), .val (.int bb), .unset, .unset, .unset] [(.long q3)])) _
              have j0 : (if kk = (0 : Int32) then q1 else (if kk = (1 : Int32) then q2 else q3)) = q3 := by rw [if_neg hc108_193, if_neg hc118_194]
              rw [j0] at k
              exact k
        generalize hv_ww : (if kk = (0 : Int32) then q1 else (if kk = (1 : Int32) then q2 else q3)) = ww
        show EndsQ _ _ _ _ _ _ _ (T189.setTop (mkF m 127 #[.val (.long q1), .second, .val (.long q2), .second, .val (.long q3), .second, .val (.int p4), .val (.int p5), .val (.int p6), .val (.int (3 : Int32)), .val (.ref b176), .val (.ref b185), .val (.int vv), .val (.int kk), .val (.int bb), .unset, .unset, .unset] [(.long ww)]))
        refine EndsQ.go (b := T189.setTop (mkF m 138 #[.val (.long q1), .second, .val (.long q2), .second, .val (.long q3), .second, .val (.int p4), .val (.int p5), .val (.int p6), .val (.int (3 : Int32)), .val (.ref b176), .val (.ref b185), .val (.int vv), .val (.int kk), .val (.int bb), .unset, .val (.long ww), .second] [(.int (lcmpW (ww &&& ((1 : Int64) <<< (bb &&& 0x3f).toInt64)) (0 : Int64)))])) (fun t k => ?_) ?_
        · show Steps p.tables e below (T189.setTop (mkF m 127 #[.val (.long q1), .second, .val (.long q2), .second, .val (.long q3), .second, .val (.int p4), .val (.int p5), .val (.int p6), .val (.int (3 : Int32)), .val (.ref b176), .val (.ref b185), .val (.int vv), .val (.int kk), .val (.int bb), .unset, .unset, .unset] [(.long ww)])) _
          refine XS.lstore X189.here hx rfl (hb hby at_127) rfl (l' := #[.val (.long q1), .second, .val (.long q2), .second, .val (.long q3), .second, .val (.int p4), .val (.int p5), .val (.int p6), .val (.int (3 : Int32)), .val (.ref b176), .val (.ref b185), .val (.int vv), .val (.int kk), .val (.int bb), .unset, .val (.long ww), .second]) rfl ?_
          show Steps p.tables e below (T189.setTop (mkF m 129 #[.val (.long q1), .second, .val (.long q2), .second, .val (.long q3), .second, .val (.int p4), .val (.int p5), .val (.int p6), .val (.int (3 : Int32)), .val (.ref b176), .val (.ref b185), .val (.int vv), .val (.int kk), .val (.int bb), .unset, .val (.long ww), .second] [])) _
          refine XS.lload X189.here hx rfl (hb hby at_129) rfl ?_
          show Steps p.tables e below (T189.setTop (mkF m 131 #[.val (.long q1), .second, .val (.long q2), .second, .val (.long q3), .second, .val (.int p4), .val (.int p5), .val (.int p6), .val (.int (3 : Int32)), .val (.ref b176), .val (.ref b185), .val (.int vv), .val (.int kk), .val (.int bb), .unset, .val (.long ww), .second] [(.long ww)])) _
          refine XS.lconst X189.here hx rfl (hb hby at_131) ?_
          show Steps p.tables e below (T189.setTop (mkF m 132 #[.val (.long q1), .second, .val (.long q2), .second, .val (.long q3), .second, .val (.int p4), .val (.int p5), .val (.int p6), .val (.int (3 : Int32)), .val (.ref b176), .val (.ref b185), .val (.int vv), .val (.int kk), .val (.int bb), .unset, .val (.long ww), .second] [(.long (1 : Int64)), (.long ww)])) _
          refine XS.iload X189.here hx rfl (hb hby at_132) rfl ?_
          show Steps p.tables e below (T189.setTop (mkF m 134 #[.val (.long q1), .second, .val (.long q2), .second, .val (.long q3), .second, .val (.int p4), .val (.int p5), .val (.int p6), .val (.int (3 : Int32)), .val (.ref b176), .val (.ref b185), .val (.int vv), .val (.int kk), .val (.int bb), .unset, .val (.long ww), .second] [(.int bb), (.long (1 : Int64)), (.long ww)])) _
          refine XS.lshl X189.here hx rfl (hb hby at_134) rfl ?_
          show Steps p.tables e below (T189.setTop (mkF m 135 #[.val (.long q1), .second, .val (.long q2), .second, .val (.long q3), .second, .val (.int p4), .val (.int p5), .val (.int p6), .val (.int (3 : Int32)), .val (.ref b176), .val (.ref b185), .val (.int vv), .val (.int kk), .val (.int bb), .unset, .val (.long ww), .second] [(.long ((1 : Int64) <<< (bb &&& 0x3f).toInt64)), (.long ww)])) _
          refine XS.land X189.here hx rfl (hb hby at_135) rfl ?_
          show Steps p.tables e below (T189.setTop (mkF m 136 #[.val (.long q1), .second, .val (.long q2), .second, .val (.long q3), .second, .val (.int p4), .val (.int p5), .val (.int p6), .val (.int (3 : Int32)), .val (.ref b176), .val (.ref b185), .val (.int vv), .val (.int kk), .val (.int bb), .unset, .val (.long ww), .second] [(.long (ww &&& ((1 : Int64) <<< (bb &&& 0x3f).toInt64)))])) _
          refine XS.lconst X189.here hx rfl (hb hby at_136) ?_
          show Steps p.tables e below (T189.setTop (mkF m 137 #[.val (.long q1), .second, .val (.long q2), .second, .val (.long q3), .second, .val (.int p4), .val (.int p5), .val (.int p6), .val (.int (3 : Int32)), .val (.ref b176), .val (.ref b185), .val (.int vv), .val (.int kk), .val (.int bb), .unset, .val (.long ww), .second] [(.long (0 : Int64)), (.long (ww &&& ((1 : Int64) <<< (bb &&& 0x3f).toInt64)))])) _
          refine XS.lcmp X189.here hx rfl (hb hby at_137) rfl ?_
          show Steps p.tables e below (T189.setTop (mkF m 138 #[.val (.long q1), .second, .val (.long q2), .second, .val (.long q3), .second, .val (.int p4), .val (.int p5), .val (.int p6), .val (.int (3 : Int32)), .val (.ref b176), .val (.ref b185), .val (.int vv), .val (.int kk), .val (.int bb), .unset, .val (.long ww), .second] [(.int (lcmpW (ww &&& ((1 : Int64) <<< (bb &&& 0x3f).toInt64)) (0 : Int64)))])) _
          exact k
        refine EndsQ.go (b := T189.setTop (mkF m 146 #[.val (.long q1), .second, .val (.long q2), .second, .val (.long q3), .second, .val (.int p4), .val (.int p5), .val (.int p6), .val (.int (3 : Int32)), .val (.ref b176), .val (.ref b185), .val (.int vv), .val (.int kk), .val (.int bb), .unset, .val (.long ww), .second] [(.int (if (ww &&& ((1 : Int64) <<< (bb &&& 0x3f).toInt64)) = (0 : Int64) then (0 : Int32) else (1 : Int32)))])) (fun t k => ?_) ?_
        · by_cases hc138_195 : (ww &&& ((1 : Int64) <<< (bb &&& 0x3f).toInt64)) = (0 : Int64)
          · refine XS.ifYes X189.here hx rfl (pc0 := 138) (pc' := 145) rfl (hb hby at_138) rfl ((if0 _ _).trans (teq ((lw_eq (ww &&& ((1 : Int64) <<< (bb &&& 0x3f).toInt64)) (0 : Int64)).mpr hc138_195)).1) (by decide) (by decide) ?_
            show Steps p.tables e below (T189.setTop (mkF m 145 #[.val (.long q1), .second, .val (.long q2), .second, .val (.long q3), .second, .val (.int p4), .val (.int p5), .val (.int p6), .val (.int (3 : Int32)), .val (.ref b176), .val (.ref b185), .val (.int vv), .val (.int kk), .val (.int bb), .unset, .val (.long ww), .second] [])) _
            refine XS.iconst X189.here hx rfl (hb hby at_145) ?_
            show Steps p.tables e below (T189.setTop (mkF m 146 #[.val (.long q1), .second, .val (.long q2), .second, .val (.long q3), .second, .val (.int p4), .val (.int p5), .val (.int p6), .val (.int (3 : Int32)), .val (.ref b176), .val (.ref b185), .val (.int vv), .val (.int kk), .val (.int bb), .unset, .val (.long ww), .second] [(.int (0 : Int32))])) _
            have j0 : (if (ww &&& ((1 : Int64) <<< (bb &&& 0x3f).toInt64)) = (0 : Int64) then (0 : Int32) else (1 : Int32)) = (0 : Int32) := by rw [if_pos hc138_195]
            rw [j0] at k
            exact k
          · refine XS.ifNo X189.here hx rfl (hb hby at_138) rfl ((if0 _ _).trans (feq (fun q => hc138_195 ((lw_eq (ww &&& ((1 : Int64) <<< (bb &&& 0x3f).toInt64)) (0 : Int64)).mp q))).1) ?_
            show Steps p.tables e below (T189.setTop (mkF m 141 #[.val (.long q1), .second, .val (.long q2), .second, .val (.long q3), .second, .val (.int p4), .val (.int p5), .val (.int p6), .val (.int (3 : Int32)), .val (.ref b176), .val (.ref b185), .val (.int vv), .val (.int kk), .val (.int bb), .unset, .val (.long ww), .second] [])) _
            refine XS.iconst X189.here hx rfl (hb hby at_141) ?_
            show Steps p.tables e below (T189.setTop (mkF m 142 #[.val (.long q1), .second, .val (.long q2), .second, .val (.long q3), .second, .val (.int p4), .val (.int p5), .val (.int p6), .val (.int (3 : Int32)), .val (.ref b176), .val (.ref b185), .val (.int vv), .val (.int kk), .val (.int bb), .unset, .val (.long ww), .second] [(.int (1 : Int32))])) _
            refine XS.goto X189.here hx rfl (pc0 := 142) (pc' := 146) rfl (hb hby at_142) (by decide) (by decide) ?_
            show Steps p.tables e below (T189.setTop (mkF m 146 #[.val (.long q1), .second, .val (.long q2), .second, .val (.long q3), .second, .val (.int p4), .val (.int p5), .val (.int p6), .val (.int (3 : Int32)), .val (.ref b176), .val (.ref b185), .val (.int vv), .val (.int kk), .val (.int bb), .unset, .val (.long ww), .second] [(.int (1 : Int32))])) _
            have j0 : (if (ww &&& ((1 : Int64) <<< (bb &&& 0x3f).toInt64)) = (0 : Int64) then (0 : Int32) else (1 : Int32)) = (1 : Int32) := by rw [if_neg hc138_195]
            rw [j0] at k
            exact k
        generalize hv_ee : (if (ww &&& ((1 : Int64) <<< (bb &&& 0x3f).toInt64)) = (0 : Int64) then (0 : Int32) else (1 : Int32)) = ee
        show EndsQ _ _ _ _ _ _ _ (T189.setTop (mkF m 146 #[.val (.long q1), .second, .val (.long q2), .second, .val (.long q3), .second, .val (.int p4), .val (.int p5), .val (.int p6), .val (.int (3 : Int32)), .val (.ref b176), .val (.ref b185), .val (.int vv), .val (.int kk), .val (.int bb), .unset, .val (.long ww), .second] [(.int ee)]))
        refine EndsQ.go (b := T189.setTop (mkF m 152 #[.val (.long q1), .second, .val (.long q2), .second, .val (.long q3), .second, .val (.int p4), .val (.int p5), .val (.int p6), .val (.int (3 : Int32)), .val (.ref b176), .val (.ref b185), .val (.int vv), .val (.int kk), .val (.int bb), .val (.int ee), .val (.long ww), .second] [(.int vv), (.ref b185)])) (fun t k => ?_) ?_
        · show Steps p.tables e below (T189.setTop (mkF m 146 #[.val (.long q1), .second, .val (.long q2), .second, .val (.long q3), .second, .val (.int p4), .val (.int p5), .val (.int p6), .val (.int (3 : Int32)), .val (.ref b176), .val (.ref b185), .val (.int vv), .val (.int kk), .val (.int bb), .unset, .val (.long ww), .second] [(.int ee)])) _
          refine XS.istore X189.here hx rfl (hb hby at_146) rfl (l' := #[.val (.long q1), .second, .val (.long q2), .second, .val (.long q3), .second, .val (.int p4), .val (.int p5), .val (.int p6), .val (.int (3 : Int32)), .val (.ref b176), .val (.ref b185), .val (.int vv), .val (.int kk), .val (.int bb), .val (.int ee), .val (.long ww), .second]) rfl ?_
          show Steps p.tables e below (T189.setTop (mkF m 148 #[.val (.long q1), .second, .val (.long q2), .second, .val (.long q3), .second, .val (.int p4), .val (.int p5), .val (.int p6), .val (.int (3 : Int32)), .val (.ref b176), .val (.ref b185), .val (.int vv), .val (.int kk), .val (.int bb), .val (.int ee), .val (.long ww), .second] [])) _
          refine XS.aload X189.here hx rfl (hb hby at_148) rfl rfl ?_
          show Steps p.tables e below (T189.setTop (mkF m 150 #[.val (.long q1), .second, .val (.long q2), .second, .val (.long q3), .second, .val (.int p4), .val (.int p5), .val (.int p6), .val (.int (3 : Int32)), .val (.ref b176), .val (.ref b185), .val (.int vv), .val (.int kk), .val (.int bb), .val (.int ee), .val (.long ww), .second] [(.ref b185)])) _
          refine XS.iload X189.here hx rfl (hb hby at_150) rfl ?_
          show Steps p.tables e below (T189.setTop (mkF m 152 #[.val (.long q1), .second, .val (.long q2), .second, .val (.long q3), .second, .val (.int p4), .val (.int p5), .val (.int p6), .val (.int (3 : Int32)), .val (.ref b176), .val (.ref b185), .val (.int vv), .val (.int kk), .val (.int bb), .val (.int ee), .val (.long ww), .second] [(.int vv), (.ref b185)])) _
          exact k
        have hsel : own_w vv < (3 : Int32) → (¬ own_w vv < 0 ∧ own_w vv < (3 : Int32)) ∧ ([(.long q1), (.long q2), (.long q3)] : List Value).getD (own_w vv).toNatClampNeg (.long (0 : Int64)) = .long ww := by
          intro hlt
          rw [hkw.1] at hlt ⊢
          rw [← hv_ww]
          rcases own_c3 kk hkw.2 with q | q | q | q
          · rw [q] at hlt ⊢; exact ⟨by decide, rfl⟩
          · rw [q] at hlt ⊢; exact ⟨by decide, rfl⟩
          · rw [q] at hlt ⊢; exact ⟨by decide, rfl⟩
          · exact absurd hlt (own_gt2 kk (3 : Int32) q (by decide))
        have hz0 : ¬ kk < (3 : Int32) → ww = 0 := by
          intro hlt
          rw [← hv_ww]
          rcases own_c3 kk hkw.2 with q | q | q | q
          · rw [q] at hlt hc97_192 ⊢; exact absurd (by decide) hlt
          · rw [q] at hlt hc97_192 ⊢; exact absurd (by decide) hlt
          · rw [q] at hlt hc97_192 ⊢; exact absurd (by decide) hlt
          · exact absurd hc97_192 (own_gt2 kk (3 : Int32) q (by decide))
        obtain ⟨cq196, kq196, qa196, qb196, qc196⟩ := isOf hZ rfl Ex189
        obtain ⟨_, _, ⟨T196, L196, kk196, nn196⟩, -, X196, ⟨Lc196, hQ196, l196, y196, z196⟩, st196⟩ := X189.virtualBack hx (y := (⟨"com/example/sextant/sextant/ValueSet", "contains", "(I)Z"⟩ : MethodName)) (z := (⟨"com/example/sextant/sextant/ValueSet", "contains", "(I)Z"⟩ : MethodName)) hown (mvT hZ (hw _ (List.mem_of_getElem? (i := 13) rfl))) (mvT hZ (hw _ (List.mem_of_getElem? (i := 14) rfl))) (notFace_of_selects (args := #[]) (mvT hZ (hw _ (List.mem_of_getElem? (i := 16) rfl)))) (mvT hZ (hw _ (List.mem_of_getElem? (i := 16) rfl))) (mvT hZ (hw _ (List.mem_of_getElem? (i := 15) rfl))) (by decide) (backOf (W := 0) (rm3 l Z a0 hw [] b185 vv c189 kc189 (3 : Int32) [(.long q1), (.long q2), (.long q3)] ww T189.heap n0 f190 Fx189 Vx189 hsel) hZ (hw _ (List.mem_of_getElem? (i := 17) rfl)) (hw _ (List.mem_of_getElem? (i := 3) rfl)) (by decide) (by decide)) qa196 qc196 (g := (mkF m 152 #[.val (.long q1), .second, .val (.long q2), .second, .val (.long q3), .second, .val (.int p4), .val (.int p5), .val (.int p6), .val (.int (3 : Int32)), .val (.ref b176), .val (.ref b185), .val (.int vv), .val (.int kk), .val (.int bb), .val (.int ee), .val (.long ww), .second] [(.int vv), (.ref b185)])) rfl (by rw [hml]; rfl) (Steps.refl _) (argsL := [(.int vv)]) (rest := []) (lenOf pd_3 rfl) rfl (by show 2 * 0 + _ ≤ _; exact Nat.le_of_eq rfl) (hb hby at_152) (fun _ _ => ⟨rfl, rfl, (by decide : 3 + 0 ≤ _), (by decide : 6 + 0 ≤ _)⟩)
        dsimp only [Pt.U, Pt.locs, Pt.cells, Pt.slots] at X196 l196 y196 z196 st196 hQ196
        subst l196 y196 z196
        obtain ⟨rfl, Nq196, eq196⟩ := hQ196
        have N196 := Fr.app N189 Nq196
        refine EndsQ.go (fun t k => st196.trans k) ?_
        show EndsQ _ _ _ _ _ _ _ (T196.setTop (mkF m 155 #[.val (.long q1), .second, .val (.long q2), .second, .val (.long q3), .second, .val (.int p4), .val (.int p5), .val (.int p6), .val (.int (3 : Int32)), .val (.ref b176), .val (.ref b185), .val (.int vv), .val (.int kk), .val (.int bb), .val (.int ee), .val (.long ww), .second] [(.int (own_has vv (3 : Int32) ww))]))
        refine EndsQ.go (b := T196.setTop (mkF m 165 #[.val (.long q1), .second, .val (.long q2), .second, .val (.long q3), .second, .val (.int p4), .val (.int p5), .val (.int p6), .val (.int (3 : Int32)), .val (.ref b176), .val (.ref b185), .val (.int vv), .val (.int kk), .val (.int bb), .val (.int ee), .val (.long ww), .second] [(.int (1 : Int32))])) (fun t k => ?_) ?_
        · show Steps p.tables e below (T196.setTop (mkF m 155 #[.val (.long q1), .second, .val (.long q2), .second, .val (.long q3), .second, .val (.int p4), .val (.int p5), .val (.int p6), .val (.int (3 : Int32)), .val (.ref b176), .val (.ref b185), .val (.int vv), .val (.int kk), .val (.int bb), .val (.int ee), .val (.long ww), .second] [(.int (own_has vv (3 : Int32) ww))])) _
          refine XS.iload X196.here hx rfl (hb hby at_155) rfl ?_
          show Steps p.tables e below (T196.setTop (mkF m 157 #[.val (.long q1), .second, .val (.long q2), .second, .val (.long q3), .second, .val (.int p4), .val (.int p5), .val (.int p6), .val (.int (3 : Int32)), .val (.ref b176), .val (.ref b185), .val (.int vv), .val (.int kk), .val (.int bb), .val (.int ee), .val (.long ww), .second] [(.int ee), (.int (own_has vv (3 : Int32) ww))])) _
          refine XS.icmpNo X196.here hx rfl (hb hby at_157) rfl (teq ((own_hasB vv (3 : Int32) kk bb ww hb_v hkw.1 hv_bb hz0).trans hv_ee)).2 ?_
          show Steps p.tables e below (T196.setTop (mkF m 160 #[.val (.long q1), .second, .val (.long q2), .second, .val (.long q3), .second, .val (.int p4), .val (.int p5), .val (.int p6), .val (.int (3 : Int32)), .val (.ref b176), .val (.ref b185), .val (.int vv), .val (.int kk), .val (.int bb), .val (.int ee), .val (.long ww), .second] [])) _
          refine XS.iconst X196.here hx rfl (hb hby at_160) ?_
          show Steps p.tables e below (T196.setTop (mkF m 161 #[.val (.long q1), .second, .val (.long q2), .second, .val (.long q3), .second, .val (.int p4), .val (.int p5), .val (.int p6), .val (.int (3 : Int32)), .val (.ref b176), .val (.ref b185), .val (.int vv), .val (.int kk), .val (.int bb), .val (.int ee), .val (.long ww), .second] [(.int (1 : Int32))])) _
          refine XS.goto X196.here hx rfl (pc0 := 161) (pc' := 165) rfl (hb hby at_161) (by decide) (by decide) ?_
          show Steps p.tables e below (T196.setTop (mkF m 165 #[.val (.long q1), .second, .val (.long q2), .second, .val (.long q3), .second, .val (.int p4), .val (.int p5), .val (.int p6), .val (.int (3 : Int32)), .val (.ref b176), .val (.ref b185), .val (.int vv), .val (.int kk), .val (.int bb), .val (.int ee), .val (.long ww), .second] [(.int (1 : Int32))])) _
          exact k
        refine EndsQ.retN X196 hx Bd.notSynchronized (t := .boolean) Bd.returns (by simp) (hb hby at_165) (by decide) (by decide) ?_
        show Q0 Z q1 q2 q3 p4 p5 p6 h0 n0 (some (.int (nar .boolean (1 : Int32)))) T196.heap _
        rw [eq196]
        exact ⟨rfl, N196⟩
      · refine EndsQ.go (b := T189.setTop (mkF m 100 #[.val (.long q1), .second, .val (.long q2), .second, .val (.long q3), .second, .val (.int p4), .val (.int p5), .val (.int p6), .val (.int (3 : Int32)), .val (.ref b176), .val (.ref b185), .val (.int vv), .val (.int kk), .val (.int bb), .unset, .unset, .unset] [])) (fun t k => ?_) ?_
        · show Steps p.tables e below (T189.setTop (mkF m 97 #[.val (.long q1), .second, .val (.long q2), .second, .val (.long q3), .second, .val (.int p4), .val (.int p5), .val (.int p6), .val (.int (3 : Int32)), .val (.ref b176), .val (.ref b185), .val (.int vv), .val (.int kk), .val (.int bb), .unset, .unset, .unset] [(.int (3 : Int32)), (.int kk)])) _
          refine XS.icmpNo X189.here hx rfl (hb hby at_97) rfl (flt hc97_192).1 ?_
          show Steps p.tables e below (T189.setTop (mkF m 100 #[.val (.long q1), .second, .val (.long q2), .second, .val (.long q3), .second, .val (.int p4), .val (.int p5), .val (.int p6), .val (.int (3 : Int32)), .val (.ref b176), .val (.ref b185), .val (.int vv), .val (.int kk), .val (.int bb), .unset, .unset, .unset] [])) _
          exact k
        refine EndsQ.go (b := T189.setTop (mkF m 152 #[.val (.long q1), .second, .val (.long q2), .second, .val (.long q3), .second, .val (.int p4), .val (.int p5), .val (.int p6), .val (.int (3 : Int32)), .val (.ref b176), .val (.ref b185), .val (.int vv), .val (.int kk), .val (.int bb), .val (.int (0 : Int32)), .unset, .unset] [(.int vv), (.ref b185)])) (fun t k => ?_) ?_
        · show Steps p.tables e below (T189.setTop (mkF m 100 #[.val (.long q1), .second, .val (.long q2), .second, .val (.long q3), .second, .val (.int p4), .val (.int p5), .val (.int p6), .val (.int (3 : Int32)), .val (.ref b176), .val (.ref b185), .val (.int vv), .val (.int kk), .val (.int bb), .unset, .unset, .unset] [])) _
          refine XS.iconst X189.here hx rfl (hb hby at_100) ?_
          show Steps p.tables e below (T189.setTop (mkF m 101 #[.val (.long q1), .second, .val (.long q2), .second, .val (.long q3), .second, .val (.int p4), .val (.int p5), .val (.int p6), .val (.int (3 : Int32)), .val (.ref b176), .val (.ref b185), .val (.int vv), .val (.int kk), .val (.int bb), .unset, .unset, .unset] [(.int (0 : Int32))])) _
          refine XS.istore X189.here hx rfl (hb hby at_101) rfl (l' := #[.val (.long q1), .second, .val (.long q2), .second, .val (.long q3), .second, .val (.int p4), .val (.int p5), .val (.int p6), .val (.int (3 : Int32)), .val (.ref b176), .val (.ref b185), .val (.int vv), .val (.int kk), .val (.int bb), .val (.int (0 : Int32)), .unset, .unset]) rfl ?_
          show Steps p.tables e below (T189.setTop (mkF m 103 #[.val (.long q1), .second, .val (.long q2), .second, .val (.long q3), .second, .val (.int p4), .val (.int p5), .val (.int p6), .val (.int (3 : Int32)), .val (.ref b176), .val (.ref b185), .val (.int vv), .val (.int kk), .val (.int bb), .val (.int (0 : Int32)), .unset, .unset] [])) _
          refine XS.goto X189.here hx rfl (pc0 := 103) (pc' := 148) rfl (hb hby at_103) (by decide) (by decide) ?_
          show Steps p.tables e below (T189.setTop (mkF m 148 #[.val (.long q1), .second, .val (.long q2), .second, .val (.long q3), .second, .val (.int p4), .val (.int p5), .val (.int p6), .val (.int (3 : Int32)), .val (.ref b176), .val (.ref b185), .val (.int vv), .val (.int kk), .val (.int bb), .val (.int (0 : Int32)), .unset, .unset] [])) _
          refine XS.aload X189.here hx rfl (hb hby at_148) rfl rfl ?_
          show Steps p.tables e below (T189.setTop (mkF m 150 #[.val (.long q1), .second, .val (.long q2), .second, .val (.long q3), .second, .val (.int p4), .val (.int p5), .val (.int p6), .val (.int (3 : Int32)), .val (.ref b176), .val (.ref b185), .val (.int vv), .val (.int kk), .val (.int bb), .val (.int (0 : Int32)), .unset, .unset] [(.ref b185)])) _
          refine XS.iload X189.here hx rfl (hb hby at_150) rfl ?_
          show Steps p.tables e below (T189.setTop (mkF m 152 #[.val (.long q1), .second, .val (.long q2), .second, .val (.long q3), .second, .val (.int p4), .val (.int p5), .val (.int p6), .val (.int (3 : Int32)), .val (.ref b176), .val (.ref b185), .val (.int vv), .val (.int kk), .val (.int bb), .val (.int (0 : Int32)), .unset, .unset] [(.int vv), (.ref b185)])) _
          exact k
        obtain ⟨cq197, kq197, qa197, qb197, qc197⟩ := isOf hZ rfl Ex189
        obtain ⟨_, _, ⟨T197, L197, kk197, nn197⟩, -, X197, ⟨Lc197, hQ197, l197, y197, z197⟩, st197⟩ := X189.virtualBack hx (y := (⟨"com/example/sextant/sextant/ValueSet", "contains", "(I)Z"⟩ : MethodName)) (z := (⟨"com/example/sextant/sextant/ValueSet", "contains", "(I)Z"⟩ : MethodName)) hown (mvT hZ (hw _ (List.mem_of_getElem? (i := 13) rfl))) (mvT hZ (hw _ (List.mem_of_getElem? (i := 14) rfl))) (notFace_of_selects (args := #[]) (mvT hZ (hw _ (List.mem_of_getElem? (i := 16) rfl)))) (mvT hZ (hw _ (List.mem_of_getElem? (i := 16) rfl))) (mvT hZ (hw _ (List.mem_of_getElem? (i := 15) rfl))) (by decide) (backOf (W := 0) (rm3 l Z a0 hw [] b185 vv c189 kc189 (3 : Int32) [(.long q1), (.long q2), (.long q3)] (0 : Int64) T189.heap n0 f190 Fx189 Vx189 (fun hlt => absurd hlt (by rw [hkw.1]; exact own_mono kk (3 : Int32) (3 : Int32) hc97_192 (by decide)))) hZ (hw _ (List.mem_of_getElem? (i := 17) rfl)) (hw _ (List.mem_of_getElem? (i := 3) rfl)) (by decide) (by decide)) qa197 qc197 (g := (mkF m 152 #[.val (.long q1), .second, .val (.long q2), .second, .val (.long q3), .second, .val (.int p4), .val (.int p5), .val (.int p6), .val (.int (3 : Int32)), .val (.ref b176), .val (.ref b185), .val (.int vv), .val (.int kk), .val (.int bb), .val (.int (0 : Int32)), .unset, .unset] [(.int vv), (.ref b185)])) rfl (by rw [hml]; rfl) (Steps.refl _) (argsL := [(.int vv)]) (rest := []) (lenOf pd_3 rfl) rfl (by show 2 * 0 + _ ≤ _; exact Nat.le_of_eq rfl) (hb hby at_152) (fun _ _ => ⟨rfl, rfl, (by decide : 3 + 0 ≤ _), (by decide : 6 + 0 ≤ _)⟩)
        dsimp only [Pt.U, Pt.locs, Pt.cells, Pt.slots] at X197 l197 y197 z197 st197 hQ197
        subst l197 y197 z197
        obtain ⟨rfl, Nq197, eq197⟩ := hQ197
        have N197 := Fr.app N189 Nq197
        refine EndsQ.go (fun t k => st197.trans k) ?_
        show EndsQ _ _ _ _ _ _ _ (T197.setTop (mkF m 155 #[.val (.long q1), .second, .val (.long q2), .second, .val (.long q3), .second, .val (.int p4), .val (.int p5), .val (.int p6), .val (.int (3 : Int32)), .val (.ref b176), .val (.ref b185), .val (.int vv), .val (.int kk), .val (.int bb), .val (.int (0 : Int32)), .unset, .unset] [(.int (own_has vv (3 : Int32) (0 : Int64)))]))
        refine EndsQ.go (b := T197.setTop (mkF m 165 #[.val (.long q1), .second, .val (.long q2), .second, .val (.long q3), .second, .val (.int p4), .val (.int p5), .val (.int p6), .val (.int (3 : Int32)), .val (.ref b176), .val (.ref b185), .val (.int vv), .val (.int kk), .val (.int bb), .val (.int (0 : Int32)), .unset, .unset] [(.int (1 : Int32))])) (fun t k => ?_) ?_
        · show Steps p.tables e below (T197.setTop (mkF m 155 #[.val (.long q1), .second, .val (.long q2), .second, .val (.long q3), .second, .val (.int p4), .val (.int p5), .val (.int p6), .val (.int (3 : Int32)), .val (.ref b176), .val (.ref b185), .val (.int vv), .val (.int kk), .val (.int bb), .val (.int (0 : Int32)), .unset, .unset] [(.int (own_has vv (3 : Int32) (0 : Int64)))])) _
          refine XS.iload X197.here hx rfl (hb hby at_155) rfl ?_
          show Steps p.tables e below (T197.setTop (mkF m 157 #[.val (.long q1), .second, .val (.long q2), .second, .val (.long q3), .second, .val (.int p4), .val (.int p5), .val (.int p6), .val (.int (3 : Int32)), .val (.ref b176), .val (.ref b185), .val (.int vv), .val (.int kk), .val (.int bb), .val (.int (0 : Int32)), .unset, .unset] [(.int (0 : Int32)), (.int (own_has vv (3 : Int32) (0 : Int64)))])) _
          refine XS.icmpNo X197.here hx rfl (hb hby at_157) rfl (teq (own_hasA vv (3 : Int32) kk (0 : Int64) hkw.1 (own_mono kk (3 : Int32) (3 : Int32) hc97_192 (by decide)))).2 ?_
          show Steps p.tables e below (T197.setTop (mkF m 160 #[.val (.long q1), .second, .val (.long q2), .second, .val (.long q3), .second, .val (.int p4), .val (.int p5), .val (.int p6), .val (.int (3 : Int32)), .val (.ref b176), .val (.ref b185), .val (.int vv), .val (.int kk), .val (.int bb), .val (.int (0 : Int32)), .unset, .unset] [])) _
          refine XS.iconst X197.here hx rfl (hb hby at_160) ?_
          show Steps p.tables e below (T197.setTop (mkF m 161 #[.val (.long q1), .second, .val (.long q2), .second, .val (.long q3), .second, .val (.int p4), .val (.int p5), .val (.int p6), .val (.int (3 : Int32)), .val (.ref b176), .val (.ref b185), .val (.int vv), .val (.int kk), .val (.int bb), .val (.int (0 : Int32)), .unset, .unset] [(.int (1 : Int32))])) _
          refine XS.goto X197.here hx rfl (pc0 := 161) (pc' := 165) rfl (hb hby at_161) (by decide) (by decide) ?_
          show Steps p.tables e below (T197.setTop (mkF m 165 #[.val (.long q1), .second, .val (.long q2), .second, .val (.long q3), .second, .val (.int p4), .val (.int p5), .val (.int p6), .val (.int (3 : Int32)), .val (.ref b176), .val (.ref b185), .val (.int vv), .val (.int kk), .val (.int bb), .val (.int (0 : Int32)), .unset, .unset] [(.int (1 : Int32))])) _
          exact k
        refine EndsQ.retN X197 hx Bd.notSynchronized (t := .boolean) Bd.returns (by simp) (hb hby at_165) (by decide) (by decide) ?_
        show Q0 Z q1 q2 q3 p4 p5 p6 h0 n0 (some (.int (nar .boolean (1 : Int32)))) T197.heap _
        rw [eq197]
        exact ⟨rfl, N197⟩
    · have ht2 := trivial
      refine EndsQ.go (b := T189.setTop (mkF m 60 #[.val (.long q1), .second, .val (.long q2), .second, .val (.long q3), .second, .val (.int p4), .val (.int p5), .val (.int p6), .val (.int (3 : Int32)), .val (.ref b176), .val (.ref b185), .unset, .unset, .unset, .unset, .unset, .unset] [(.int (p6 &&& (1 : Int32)))])) (fun t k => ?_) ?_
      · show Steps p.tables e below (T189.setTop (mkF m 54 #[.val (.long q1), .second, .val (.long q2), .second, .val (.long q3), .second, .val (.int p4), .val (.int p5), .val (.int p6), .val (.int (3 : Int32)), .val (.ref b176), .unset, .unset, .unset, .unset, .unset, .unset, .unset] [(.ref b185)])) _
        refine XS.astore X189.here hx rfl (hb hby at_54) rfl rfl (l' := #[.val (.long q1), .second, .val (.long q2), .second, .val (.long q3), .second, .val (.int p4), .val (.int p5), .val (.int p6), .val (.int (3 : Int32)), .val (.ref b176), .val (.ref b185), .unset, .unset, .unset, .unset, .unset, .unset]) rfl ?_
        show Steps p.tables e below (T189.setTop (mkF m 56 #[.val (.long q1), .second, .val (.long q2), .second, .val (.long q3), .second, .val (.int p4), .val (.int p5), .val (.int p6), .val (.int (3 : Int32)), .val (.ref b176), .val (.ref b185), .unset, .unset, .unset, .unset, .unset, .unset] [])) _
        refine XS.iload X189.here hx rfl (hb hby at_56) rfl ?_
        show Steps p.tables e below (T189.setTop (mkF m 58 #[.val (.long q1), .second, .val (.long q2), .second, .val (.long q3), .second, .val (.int p4), .val (.int p5), .val (.int p6), .val (.int (3 : Int32)), .val (.ref b176), .val (.ref b185), .unset, .unset, .unset, .unset, .unset, .unset] [(.int p6)])) _
        refine XS.iconst X189.here hx rfl (hb hby at_58) ?_
        show Steps p.tables e below (T189.setTop (mkF m 59 #[.val (.long q1), .second, .val (.long q2), .second, .val (.long q3), .second, .val (.int p4), .val (.int p5), .val (.int p6), .val (.int (3 : Int32)), .val (.ref b176), .val (.ref b185), .unset, .unset, .unset, .unset, .unset, .unset] [(.int (1 : Int32)), (.int p6)])) _
        refine XS.iand X189.here hx rfl (hb hby at_59) rfl ?_
        show Steps p.tables e below (T189.setTop (mkF m 60 #[.val (.long q1), .second, .val (.long q2), .second, .val (.long q3), .second, .val (.int p4), .val (.int p5), .val (.int p6), .val (.int (3 : Int32)), .val (.ref b176), .val (.ref b185), .unset, .unset, .unset, .unset, .unset, .unset] [(.int (p6 &&& (1 : Int32)))])) _
        exact k
      refine EndsQ.go (b := T189.setTop (mkF m 77 #[.val (.long q1), .second, .val (.long q2), .second, .val (.long q3), .second, .val (.int p4), .val (.int p5), .val (.int p6), .val (.int (3 : Int32)), .val (.ref b176), .val (.ref b185), .unset, .unset, .unset, .unset, .unset, .unset] [(.int (if (p6 &&& (1 : Int32)) = (0 : Int32) then (p5 &&& (255 : Int32)) else (p5 &&& (2147483647 : Int32))))])) (fun t k => ?_) ?_
      · by_cases hc60_198 : (p6 &&& (1 : Int32)) = (0 : Int32)
        · refine XS.ifYes X189.here hx rfl (pc0 := 60) (pc' := 71) rfl (hb hby at_60) rfl ((if0 _ _).trans (teq hc60_198).1) (by decide) (by decide) ?_
          show Steps p.tables e below (T189.setTop (mkF m 71 #[.val (.long q1), .second, .val (.long q2), .second, .val (.long q3), .second, .val (.int p4), .val (.int p5), .val (.int p6), .val (.int (3 : Int32)), .val (.ref b176), .val (.ref b185), .unset, .unset, .unset, .unset, .unset, .unset] [])) _
          refine XS.iload X189.here hx rfl (hb hby at_71) rfl ?_
          show Steps p.tables e below (T189.setTop (mkF m 73 #[.val (.long q1), .second, .val (.long q2), .second, .val (.long q3), .second, .val (.int p4), .val (.int p5), .val (.int p6), .val (.int (3 : Int32)), .val (.ref b176), .val (.ref b185), .unset, .unset, .unset, .unset, .unset, .unset] [(.int p5)])) _
          refine XS.sipush X189.here hx rfl (hb hby at_73) ?_
          show Steps p.tables e below (T189.setTop (mkF m 76 #[.val (.long q1), .second, .val (.long q2), .second, .val (.long q3), .second, .val (.int p4), .val (.int p5), .val (.int p6), .val (.int (3 : Int32)), .val (.ref b176), .val (.ref b185), .unset, .unset, .unset, .unset, .unset, .unset] [(.int (255 : Int32)), (.int p5)])) _
          refine XS.iand X189.here hx rfl (hb hby at_76) rfl ?_
          show Steps p.tables e below (T189.setTop (mkF m 77 #[.val (.long q1), .second, .val (.long q2), .second, .val (.long q3), .second, .val (.int p4), .val (.int p5), .val (.int p6), .val (.int (3 : Int32)), .val (.ref b176), .val (.ref b185), .unset, .unset, .unset, .unset, .unset, .unset] [(.int (p5 &&& (255 : Int32)))])) _
          have j0 : (if (p6 &&& (1 : Int32)) = (0 : Int32) then (p5 &&& (255 : Int32)) else (p5 &&& (2147483647 : Int32))) = (p5 &&& (255 : Int32)) := by rw [if_pos hc60_198]
          rw [j0] at k
          exact k
        · refine XS.ifNo X189.here hx rfl (hb hby at_60) rfl ((if0 _ _).trans (feq hc60_198).1) ?_
          show Steps p.tables e below (T189.setTop (mkF m 63 #[.val (.long q1), .second, .val (.long q2), .second, .val (.long q3), .second, .val (.int p4), .val (.int p5), .val (.int p6), .val (.int (3 : Int32)), .val (.ref b176), .val (.ref b185), .unset, .unset, .unset, .unset, .unset, .unset] [])) _
          refine XS.iload X189.here hx rfl (hb hby at_63) rfl ?_
          show Steps p.tables e below (T189.setTop (mkF m 65 #[.val (.long q1), .second, .val (.long q2), .second, .val (.long q3), .second, .val (.int p4), .val (.int p5), .val (.int p6), .val (.int (3 : Int32)), .val (.ref b176), .val (.ref b185), .unset, .unset, .unset, .unset, .unset, .unset] [(.int p5)])) _
          refine X189.ldcInt hx hown (mvT hZ (hw _ (List.mem_of_getElem? (i := 12) rfl))) (g := (mkF m 65 #[.val (.long q1), .second, .val (.long q2), .second, .val (.long q3), .second, .val (.int p4), .val (.int p5), .val (.int p6), .val (.int (3 : Int32)), .val (.ref b176), .val (.ref b185), .unset, .unset, .unset, .unset, .unset, .unset] [(.int p5)])) rfl (hb hby at_65) _ ?_
          show Steps p.tables e below (T189.setTop (mkF m 67 #[.val (.long q1), .second, .val (.long q2), .second, .val (.long q3), .second, .val (.int p4), .val (.int p5), .val (.int p6), .val (.int (3 : Int32)), .val (.ref b176), .val (.ref b185), .unset, .unset, .unset, .unset, .unset, .unset] [(.int (2147483647 : Int32)), (.int p5)])) _
          refine XS.iand X189.here hx rfl (hb hby at_67) rfl ?_
          show Steps p.tables e below (T189.setTop (mkF m 68 #[.val (.long q1), .second, .val (.long q2), .second, .val (.long q3), .second, .val (.int p4), .val (.int p5), .val (.int p6), .val (.int (3 : Int32)), .val (.ref b176), .val (.ref b185), .unset, .unset, .unset, .unset, .unset, .unset] [(.int (p5 &&& (2147483647 : Int32)))])) _
          refine XS.goto X189.here hx rfl (pc0 := 68) (pc' := 77) rfl (hb hby at_68) (by decide) (by decide) ?_
          show Steps p.tables e below (T189.setTop (mkF m 77 #[.val (.long q1), .second, .val (.long q2), .second, .val (.long q3), .second, .val (.int p4), .val (.int p5), .val (.int p6), .val (.int (3 : Int32)), .val (.ref b176), .val (.ref b185), .unset, .unset, .unset, .unset, .unset, .unset] [(.int (p5 &&& (2147483647 : Int32)))])) _
          have j0 : (if (p6 &&& (1 : Int32)) = (0 : Int32) then (p5 &&& (255 : Int32)) else (p5 &&& (2147483647 : Int32))) = (p5 &&& (2147483647 : Int32)) := by rw [if_neg hc60_198]
          rw [j0] at k
          exact k
      generalize hv_vv : (if (p6 &&& (1 : Int32)) = (0 : Int32) then (p5 &&& (255 : Int32)) else (p5 &&& (2147483647 : Int32))) = vv
      have hb_v : 0 ≤ vv.toInt := by rw [← hv_vv]; exact own_v p5 p6
      have hkw := own_kw vv hb_v
      show EndsQ _ _ _ _ _ _ _ (T189.setTop (mkF m 77 #[.val (.long q1), .second, .val (.long q2), .second, .val (.long q3), .second, .val (.int p4), .val (.int p5), .val (.int p6), .val (.int (3 : Int32)), .val (.ref b176), .val (.ref b185), .unset, .unset, .unset, .unset, .unset, .unset] [(.int vv)]))
      refine EndsQ.go (b := T189.setTop (mkF m 86 #[.val (.long q1), .second, .val (.long q2), .second, .val (.long q3), .second, .val (.int p4), .val (.int p5), .val (.int p6), .val (.int (3 : Int32)), .val (.ref b176), .val (.ref b185), .val (.int vv), .val (.int (vv / (64 : Int32))), .unset, .unset, .unset, .unset] [])) (fun t k => ?_) ?_
      · show Steps p.tables e below (T189.setTop (mkF m 77 #[.val (.long q1), .second, .val (.long q2), .second, .val (.long q3), .second, .val (.int p4), .val (.int p5), .val (.int p6), .val (.int (3 : Int32)), .val (.ref b176), .val (.ref b185), .unset, .unset, .unset, .unset, .unset, .unset] [(.int vv)])) _
        refine XS.istore X189.here hx rfl (hb hby at_77) rfl (l' := #[.val (.long q1), .second, .val (.long q2), .second, .val (.long q3), .second, .val (.int p4), .val (.int p5), .val (.int p6), .val (.int (3 : Int32)), .val (.ref b176), .val (.ref b185), .val (.int vv), .unset, .unset, .unset, .unset, .unset]) rfl ?_
        show Steps p.tables e below (T189.setTop (mkF m 79 #[.val (.long q1), .second, .val (.long q2), .second, .val (.long q3), .second, .val (.int p4), .val (.int p5), .val (.int p6), .val (.int (3 : Int32)), .val (.ref b176), .val (.ref b185), .val (.int vv), .unset, .unset, .unset, .unset, .unset] [])) _
        refine XS.iload X189.here hx rfl (hb hby at_79) rfl ?_
        show Steps p.tables e below (T189.setTop (mkF m 81 #[.val (.long q1), .second, .val (.long q2), .second, .val (.long q3), .second, .val (.int p4), .val (.int p5), .val (.int p6), .val (.int (3 : Int32)), .val (.ref b176), .val (.ref b185), .val (.int vv), .unset, .unset, .unset, .unset, .unset] [(.int vv)])) _
        refine XS.bipush X189.here hx rfl (hb hby at_81) ?_
        show Steps p.tables e below (T189.setTop (mkF m 83 #[.val (.long q1), .second, .val (.long q2), .second, .val (.long q3), .second, .val (.int p4), .val (.int p5), .val (.int p6), .val (.int (3 : Int32)), .val (.ref b176), .val (.ref b185), .val (.int vv), .unset, .unset, .unset, .unset, .unset] [(.int (64 : Int32)), (.int vv)])) _
        refine XS.idiv X189.here hx rfl (hb hby at_83) rfl (by decide) ?_
        show Steps p.tables e below (T189.setTop (mkF m 84 #[.val (.long q1), .second, .val (.long q2), .second, .val (.long q3), .second, .val (.int p4), .val (.int p5), .val (.int p6), .val (.int (3 : Int32)), .val (.ref b176), .val (.ref b185), .val (.int vv), .unset, .unset, .unset, .unset, .unset] [(.int (vv / (64 : Int32)))])) _
        refine XS.istore X189.here hx rfl (hb hby at_84) rfl (l' := #[.val (.long q1), .second, .val (.long q2), .second, .val (.long q3), .second, .val (.int p4), .val (.int p5), .val (.int p6), .val (.int (3 : Int32)), .val (.ref b176), .val (.ref b185), .val (.int vv), .val (.int (vv / (64 : Int32))), .unset, .unset, .unset, .unset]) rfl ?_
        show Steps p.tables e below (T189.setTop (mkF m 86 #[.val (.long q1), .second, .val (.long q2), .second, .val (.long q3), .second, .val (.int p4), .val (.int p5), .val (.int p6), .val (.int (3 : Int32)), .val (.ref b176), .val (.ref b185), .val (.int vv), .val (.int (vv / (64 : Int32))), .unset, .unset, .unset, .unset] [])) _
        exact k
      generalize hv_kk : (vv / (64 : Int32)) = kk
      rw [hv_kk] at hkw
      show EndsQ _ _ _ _ _ _ _ (T189.setTop (mkF m 86 #[.val (.long q1), .second, .val (.long q2), .second, .val (.long q3), .second, .val (.int p4), .val (.int p5), .val (.int p6), .val (.int (3 : Int32)), .val (.ref b176), .val (.ref b185), .val (.int vv), .val (.int kk), .unset, .unset, .unset, .unset] []))
      refine EndsQ.go (b := T189.setTop (mkF m 93 #[.val (.long q1), .second, .val (.long q2), .second, .val (.long q3), .second, .val (.int p4), .val (.int p5), .val (.int p6), .val (.int (3 : Int32)), .val (.ref b176), .val (.ref b185), .val (.int vv), .val (.int kk), .val (.int (vv % (64 : Int32))), .unset, .unset, .unset] [])) (fun t k => ?_) ?_
      · show Steps p.tables e below (T189.setTop (mkF m 86 #[.val (.long q1), .second, .val (.long q2), .second, .val (.long q3), .second, .val (.int p4), .val (.int p5), .val (.int p6), .val (.int (3 : Int32)), .val (.ref b176), .val (.ref b185), .val (.int vv), .val (.int kk), .unset, .unset, .unset, .unset] [])) _
        refine XS.iload X189.here hx rfl (hb hby at_86) rfl ?_
        show Steps p.tables e below (T189.setTop (mkF m 88 #[.val (.long q1), .second, .val (.long q2), .second, .val (.long q3), .second, .val (.int p4), .val (.int p5), .val (.int p6), .val (.int (3 : Int32)), .val (.ref b176), .val (.ref b185), .val (.int vv), .val (.int kk), .unset, .unset, .unset, .unset] [(.int vv)])) _
        refine XS.bipush X189.here hx rfl (hb hby at_88) ?_
        show Steps p.tables e below (T189.setTop (mkF m 90 #[.val (.long q1), .second, .val (.long q2), .second, .val (.long q3), .second, .val (.int p4), .val (.int p5), .val (.int p6), .val (.int (3 : Int32)), .val (.ref b176), .val (.ref b185), .val (.int vv), .val (.int kk), .unset, .unset, .unset, .unset] [(.int (64 : Int32)), (.int vv)])) _
        refine iremM X189 hx rfl (hb hby at_90) rfl (by decide) ?_
        show Steps p.tables e below (T189.setTop (mkF m 91 #[.val (.long q1), .second, .val (.long q2), .second, .val (.long q3), .second, .val (.int p4), .val (.int p5), .val (.int p6), .val (.int (3 : Int32)), .val (.ref b176), .val (.ref b185), .val (.int vv), .val (.int kk), .unset, .unset, .unset, .unset] [(.int (vv % (64 : Int32)))])) _
        refine XS.istore X189.here hx rfl (hb hby at_91) rfl (l' := #[.val (.long q1), .second, .val (.long q2), .second, .val (.long q3), .second, .val (.int p4), .val (.int p5), .val (.int p6), .val (.int (3 : Int32)), .val (.ref b176), .val (.ref b185), .val (.int vv), .val (.int kk), .val (.int (vv % (64 : Int32))), .unset, .unset, .unset]) rfl ?_
        show Steps p.tables e below (T189.setTop (mkF m 93 #[.val (.long q1), .second, .val (.long q2), .second, .val (.long q3), .second, .val (.int p4), .val (.int p5), .val (.int p6), .val (.int (3 : Int32)), .val (.ref b176), .val (.ref b185), .val (.int vv), .val (.int kk), .val (.int (vv % (64 : Int32))), .unset, .unset, .unset] [])) _
        exact k
      generalize hv_bb : (vv % (64 : Int32)) = bb
      show EndsQ _ _ _ _ _ _ _ (T189.setTop (mkF m 93 #[.val (.long q1), .second, .val (.long q2), .second, .val (.long q3), .second, .val (.int p4), .val (.int p5), .val (.int p6), .val (.int (3 : Int32)), .val (.ref b176), .val (.ref b185), .val (.int vv), .val (.int kk), .val (.int bb), .unset, .unset, .unset] []))
      refine EndsQ.go (b := T189.setTop (mkF m 97 #[.val (.long q1), .second, .val (.long q2), .second, .val (.long q3), .second, .val (.int p4), .val (.int p5), .val (.int p6), .val (.int (3 : Int32)), .val (.ref b176), .val (.ref b185), .val (.int vv), .val (.int kk), .val (.int bb), .unset, .unset, .unset] [(.int (3 : Int32)), (.int kk)])) (fun t k => ?_) ?_
      · show Steps p.tables e below (T189.setTop (mkF m 93 #[.val (.long q1), .second, .val (.long q2), .second, .val (.long q3), .second, .val (.int p4), .val (.int p5), .val (.int p6), .val (.int (3 : Int32)), .val (.ref b176), .val (.ref b185), .val (.int vv), .val (.int kk), .val (.int bb), .unset, .unset, .unset] [])) _
        refine XS.iload X189.here hx rfl (hb hby at_93) rfl ?_
        show Steps p.tables e below (T189.setTop (mkF m 95 #[.val (.long q1), .second, .val (.long q2), .second, .val (.long q3), .second, .val (.int p4), .val (.int p5), .val (.int p6), .val (.int (3 : Int32)), .val (.ref b176), .val (.ref b185), .val (.int vv), .val (.int kk), .val (.int bb), .unset, .unset, .unset] [(.int kk)])) _
        refine XS.iload X189.here hx rfl (hb hby at_95) rfl ?_
        show Steps p.tables e below (T189.setTop (mkF m 97 #[.val (.long q1), .second, .val (.long q2), .second, .val (.long q3), .second, .val (.int p4), .val (.int p5), .val (.int p6), .val (.int (3 : Int32)), .val (.ref b176), .val (.ref b185), .val (.int vv), .val (.int kk), .val (.int bb), .unset, .unset, .unset] [(.int (3 : Int32)), (.int kk)])) _
        exact k
      by_cases hc97_199 : kk < (3 : Int32)
      · refine EndsQ.go (b := T189.setTop (mkF m 106 #[.val (.long q1), .second, .val (.long q2), .second, .val (.long q3), .second, .val (.int p4), .val (.int p5), .val (.int p6), .val (.int (3 : Int32)), .val (.ref b176), .val (.ref b185), .val (.int vv), .val (.int kk), .val (.int bb), .unset, .unset, .unset] [])) (fun t k => ?_) ?_
        · show Steps p.tables e below (T189.setTop (mkF m 97 #[.val (.long q1), .second, .val (.long q2), .second, .val (.long q3), .second, .val (.int p4), .val (.int p5), .val (.int p6), .val (.int (3 : Int32)), .val (.ref b176), .val (.ref b185), .val (.int vv), .val (.int kk), .val (.int bb), .unset, .unset, .unset] [(.int (3 : Int32)), (.int kk)])) _
          refine XS.icmpYes X189.here hx rfl (pc0 := 97) (pc' := 106) rfl (hb hby at_97) rfl (tlt hc97_199).1 (by decide) (by decide) ?_
          show Steps p.tables e below (T189.setTop (mkF m 106 #[.val (.long q1), .second, .val (.long q2), .second, .val (.long q3), .second, .val (.int p4), .val (.int p5), .val (.int p6), .val (.int (3 : Int32)), .val (.ref b176), .val (.ref b185), .val (.int vv), .val (.int kk), .val (.int bb), .unset, .unset, .unset] [])) _
          exact k
        refine EndsQ.go (b := T189.setTop (mkF m 108 #[.val (.long q1), .second, .val (.long q2), .second, .val (.long q3), .second, .val (.int p4), .val (.int p5), .val (.int p6), .val (.int (3 : Int32)), .val (.ref b176), .val (.ref b185), .val (.int vv), .val (.int kk), .val (.int bb), .unset, .unset, .unset] [(.int kk)])) (fun t k => ?_) ?_
        · show Steps p.tables e below (T189.setTop (mkF m 106 #[.val (.long q1), .second, .val (.long q2), .second, .val (.long q3), .second, .val (.int p4), .val (.int p5), .val (.int p6), .val (.int (3 : Int32)), .val (.ref b176), .val (.ref b185), .val (.int vv), .val (.int kk), .val (.int bb), .unset, .unset, .unset] [])) _
          refine XS.iload X189.here hx rfl (hb hby at_106) rfl ?_
          show Steps p.tables e below (T189.setTop (mkF m 108 #[.val (.long q1), .second, .val (.long q2), .second, .val (.long q3), .second, .val (.int p4), .val (.int p5), .val (.int p6), .val (.int (3 : Int32)), .val (.ref b176), .val (.ref b185), .val (.int vv), .val (.int kk), .val (.int bb), .unset, .unset, .unset] [(.int kk)])) _
          exact k
        refine EndsQ.go (b := T189.setTop (mkF m 127 #[.val (.long q1), .second, .val (.long q2), .second, .val (.long q3), .second, .val (.int p4), .val (.int p5), .val (.int p6), .val (.int (3 : Int32)), .val (.ref b176), .val (.ref b185), .val (.int vv), .val (.int kk), .val (.int bb), .unset, .unset, .unset] [(.long (if kk = (0 : Int32) then q1 else (if kk = (1 : Int32) then q2 else q3)))])) (fun t k => ?_) ?_
        · by_cases hc108_200 : kk = (0 : Int32)
          · refine XS.ifNo X189.here hx rfl (hb hby at_108) rfl ((if0 _ _).trans (teq hc108_200).2) ?_
            show Steps p.tables e below (T189.setTop (mkF m 111 #[.val (.long q1), .second, .val (.long q2), .second, .val (.long q3), .second, .val (.int p4), .val (.int p5), .val (.int p6), .val (.int (3 : Int32)), .val (.ref b176), .val (.ref b185), .val (.int vv), .val (.int kk), .val (.int bb), .unset, .unset, .unset] [])) _
            refine XS.lloadN X189.here hx rfl (hb hby at_111) rfl ?_
            show Steps p.tables e below (T189.setTop (mkF m 112 #[.val (.long q1), .second, .val (.long q2), .second, .val (.long q3), .second, .val (.int p4), .val (.int p5), .val (.int p6), .val (.int (3 : Int32)), .val (.ref b176), .val (.ref b185), .val (.int vv), .val (.int kk), .val (.int bb), .unset, .unset, .unset] [(.long q1)])) _
            refine XS.goto X189.here hx rfl (pc0 := 112) (pc' := 127) rfl (hb hby at_112) (by decide) (by decide) ?_
            show Steps p.tables e below (T189.setTop (mkF m 127 #[.val (.long q1), .second, .val (.long q2), .second, .val (.long q3), .second, .val (.int p4), .val (.int p5), .val (.int p6), .val (.int (3 : Int32)), .val (.ref b176), .val (.ref b185), .val (.int vv), .val (.int kk), .val (.int bb), .unset, .unset, .unset] [(.long q1)])) _
            have j0 : (if kk = (0 : Int32) then q1 else (if kk = (1 : Int32) then q2 else q3)) = q1 := by rw [if_pos hc108_200]
            rw [j0] at k
            exact k
          · refine XS.ifYes X189.here hx rfl (pc0 := 108) (pc' := 115) rfl (hb hby at_108) rfl ((if0 _ _).trans (feq hc108_200).2) (by decide) (by decide) ?_
            show Steps p.tables e below (T189.setTop (mkF m 115 #[.val (.long q1), .second, .val (.long q2), .second, .val (.long q3), .second, .val (.int p4), .val (.int p5), .val (.int p6), .val (.int (3 : Int32)), .val (.ref b176), .val (.ref b185), .val (.int vv), .val (.int kk), .val (.int bb), .unset, .unset, .unset] [])) _
            refine XS.iload X189.here hx rfl (hb hby at_115) rfl ?_
            show Steps p.tables e below (T189.setTop (mkF m 117 #[.val (.long q1), .second, .val (.long q2), .second, .val (.long q3), .second, .val (.int p4), .val (.int p5), .val (.int p6), .val (.int (3 : Int32)), .val (.ref b176), .val (.ref b185), .val (.int vv), .val (.int kk), .val (.int bb), .unset, .unset, .unset] [(.int kk)])) _
            refine XS.iconst X189.here hx rfl (hb hby at_117) ?_
            show Steps p.tables e below (T189.setTop (mkF m 118 #[.val (.long q1), .second, .val (.long q2), .second, .val (.long q3), .second, .val (.int p4), .val (.int p5), .val (.int p6), .val (.int (3 : Int32)), .val (.ref b176), .val (.ref b185), .val (.int vv), .val (.int kk), .val (.int bb), .unset, .unset, .unset] [(.int (1 : Int32)), (.int kk)])) _
            by_cases hc118_201 : kk = (1 : Int32)
            · refine XS.icmpNo X189.here hx rfl (hb hby at_118) rfl (teq hc118_201).2 ?_
              show Steps p.tables e below (T189.setTop (mkF m 121 #[.val (.long q1), .second, .val (.long q2), .second, .val (.long q3), .second, .val (.int p4), .val (.int p5), .val (.int p6), .val (.int (3 : Int32)), .val (.ref b176), .val (.ref b185), .val (.int vv), .val (.int kk), .val (.int bb), .unset, .unset, .unset] [])) _
              refine XS.lloadN X189.here hx rfl (hb hby at_121) rfl ?_
              show Steps p.tables e below (T189.setTop (mkF m 122 #[.val (.long q1), .second, .val (.long q2), .second, .val (.long q3), .second, .val (.int p4), .val (.int p5), .val (.int p6), .val (.int (3 : Int32)), .val (.ref b176), .val (.ref b185), .val (.int vv), .val (.int kk), .val (.int bb), .unset, .unset, .unset] [(.long q2)])) _
              refine XS.goto X189.here hx rfl (pc0 := 122) (pc' := 127) rfl (hb hby at_122) (by decide) (by decide) ?_
              show Steps p.tables e below (T189.setTop (mkF m 127 #[.val (.long q1), .second, .val (.long q2), .second, .val (.long q3), .second, .val (.int p4), .val (.int p5), .val (.int p6), .val (.int (3 : Int32)), .val (.ref b176), .val (.ref b185), .val (.int vv), .val (.int kk), .val (.int bb), .unset, .unset, .unset] [(.long q2)])) _
              have j0 : (if kk = (0 : Int32) then q1 else (if kk = (1 : Int32) then q2 else q3)) = q2 := by rw [if_neg hc108_200, if_pos hc118_201]
              rw [j0] at k
              exact k
            · refine XS.icmpYes X189.here hx rfl (pc0 := 118) (pc' := 125) rfl (hb hby at_118) rfl (feq hc118_201).2 (by decide) (by decide) ?_
              show Steps p.tables e below (T189.setTop (mkF m 125 #[.val (.long q1), .second, .val (.long q2), .second, .val (.long q3), .second, .val (.int p4), .val (.int p5), .val (.int p6), .val (.int (3 : Int32)), .val (.ref b176), .val (.ref b185), .val (.int vv), .val (.int kk), .val (.int bb), .unset, .unset, .unset] [])) _
              refine XS.lload X189.here hx rfl (hb hby at_125) rfl ?_
              show Steps p.tables e below (T189.setTop (mkF m 127 #[.val (.long q1), .second, .val (.long q2), .second, .val (.long q3), .second, .val (.int p4), .val (.int p5), .val (.int p6), .val (.int (3 : Int32)), .val (.ref b176), .val (.ref b185), .val (.int vv), .val (.int kk), .val (.int bb), .unset, .unset, .unset] [(.long q3)])) _
              have j0 : (if kk = (0 : Int32) then q1 else (if kk = (1 : Int32) then q2 else q3)) = q3 := by rw [if_neg hc108_200, if_neg hc118_201]
              rw [j0] at k
              exact k
        generalize hv_ww : (if kk = (0 : Int32) then q1 else (if kk = (1 : Int32) then q2 else q3)) = ww
        show EndsQ _ _ _ _ _ _ _ (T189.setTop (mkF m 127 #[.val (.long q1), .second, .val (.long q2), .second, .val (.long q3), .second, .val (.int p4), .val (.int p5), .val (.int p6), .val (.int (3 : Int32)), .val (.ref b176), .val (.ref b185), .val (.int vv), .val (.int kk), .val (.int bb), .unset, .unset, .unset] [(.long ww)]))
        refine EndsQ.go (b := T189.setTop (mkF m 138 #[.val (.long q1), .second, .val (.long q2), .second, .val (.long q3), .second, .val (.int p4), .val (.int p5), .val (.int p6), .val (.int (3 : Int32)), .val (.ref b176), .val (.ref b185), .val (.int vv), .val (.int kk), .val (.int bb), .unset, .val (.long ww), .second] [(.int (lcmpW (ww &&& ((1 : Int64) <<< (bb &&& 0x3f).toInt64)) (0 : Int64)))])) (fun t k => ?_) ?_
        · show Steps p.tables e below (T189.setTop (mkF m 127 #[.val (.long q1), .second, .val (.long q2), .second, .val (.long q3), .second, .val (.int p4), .val (.int p5), .val (.int p6), .val (.int (3 : Int32)), .val (.ref b176), .val (.ref b185), .val (.int vv), .val (.int kk), .val (.int bb), .unset, .unset, .unset] [(.long ww)])) _
          refine XS.lstore X189.here hx rfl (hb hby at_127) rfl (l' := #[.val (.long q1), .second, .val (.long q2), .second, .val (.long q3), .second, .val (.int p4), .val (.int p5), .val (.int p6), .val (.int (3 : Int32)), .val (.ref b176), .val (.ref b185), .val (.int vv), .val (.int kk), .val (.int bb), .unset, .val (.long ww), .second]) rfl ?_
          show Steps p.tables e below (T189.setTop (mkF m 129 #[.val (.long q1), .second, .val (.long q2), .second, .val (.long q3), .second, .val (.int p4), .val (.int p5), .val (.int p6), .val (.int (3 : Int32)), .val (.ref b176), .val (.ref b185), .val (.int vv), .val (.int kk), .val (.int bb), .unset, .val (.long ww), .second] [])) _
          refine XS.lload X189.here hx rfl (hb hby at_129) rfl ?_
          show Steps p.tables e below (T189.setTop (mkF m 131 #[.val (.long q1), .second, .val (.long q2), .second, .val (.long q3), .second, .val (.int p4), .val (.int p5), .val (.int p6), .val (.int (3 : Int32)), .val (.ref b176), .val (.ref b185), .val (.int vv), .val (.int kk), .val (.int bb), .unset, .val (.long ww), .second] [(.long ww)])) _
          refine XS.lconst X189.here hx rfl (hb hby at_131) ?_
          show Steps p.tables e below (T189.setTop (mkF m 132 #[.val (.long q1), .second, .val (.long q2), .second, .val (.long q3), .second, .val (.int p4), .val (.int p5), .val (.int p6), .val (.int (3 : Int32)), .val (.ref b176), .val (.ref b185), .val (.int vv), .val (.int kk), .val (.int bb), .unset, .val (.long ww), .second] [(.long (1 : Int64)), (.long ww)])) _
          refine XS.iload X189.here hx rfl (hb hby at_132) rfl ?_
          show Steps p.tables e below (T189.setTop (mkF m 134 #[.val (.long q1), .second, .val (.long q2), .second, .val (.long q3), .second, .val (.int p4), .val (.int p5), .val (.int p6), .val (.int (3 : Int32)), .val (.ref b176), .val (.ref b185), .val (.int vv), .val (.int kk), .val (.int bb), .unset, .val (.long ww), .second] [(.int bb), (.long (1 : Int64)), (.long ww)])) _
          refine XS.lshl X189.here hx rfl (hb hby at_134) rfl ?_
          show Steps p.tables e below (T189.setTop (mkF m 135 #[.val (.long q1), .second, .val (.long q2), .second, .val (.long q3), .second, .val (.int p4), .val (.int p5), .val (.int p6), .val (.int (3 : Int32)), .val (.ref b176), .val (.ref b185), .val (.int vv), .val (.int kk), .val (.int bb), .unset, .val (.long ww), .second] [(.long ((1 : Int64) <<< (bb &&& 0x3f).toInt64)), (.long ww)])) _
          refine XS.land X189.here hx rfl (hb hby at_135) rfl ?_
          show Steps p.tables e below (T189.setTop (mkF m 136 #[.val (.long q1), .second, .val (.long q2), .second, .val (.long q3), .second, .val (.int p4), .val (.int p5), .val (.int p6), .val (.int (3 : Int32)), .val (.ref b176), .val (.ref b185), .val (.int vv), .val (.int kk), .val (.int bb), .unset, .val (.long ww), .second] [(.long (ww &&& ((1 : Int64) <<< (bb &&& 0x3f).toInt64)))])) _
          refine XS.lconst X189.here hx rfl (hb hby at_136) ?_
          show Steps p.tables e below (T189.setTop (mkF m 137 #[.val (.long q1), .second, .val (.long q2), .second, .val (.long q3), .second, .val (.int p4), .val (.int p5), .val (.int p6), .val (.int (3 : Int32)), .val (.ref b176), .val (.ref b185), .val (.int vv), .val (.int kk), .val (.int bb), .unset, .val (.long ww), .second] [(.long (0 : Int64)), (.long (ww &&& ((1 : Int64) <<< (bb &&& 0x3f).toInt64)))])) _
          refine XS.lcmp X189.here hx rfl (hb hby at_137) rfl ?_
          show Steps p.tables e below (T189.setTop (mkF m 138 #[.val (.long q1), .second, .val (.long q2), .second, .val (.long q3), .second, .val (.int p4), .val (.int p5), .val (.int p6), .val (.int (3 : Int32)), .val (.ref b176), .val (.ref b185), .val (.int vv), .val (.int kk), .val (.int bb), .unset, .val (.long ww), .second] [(.int (lcmpW (ww &&& ((1 : Int64) <<< (bb &&& 0x3f).toInt64)) (0 : Int64)))])) _
          exact k
        refine EndsQ.go (b := T189.setTop (mkF m 146 #[.val (.long q1), .second, .val (.long q2), .second, .val (.long q3), .second, .val (.int p4), .val (.int p5), .val (.int p6), .val (.int (3 : Int32)), .val (.ref b176), .val (.ref b185), .val (.int vv), .val (.int kk), .val (.int bb), .unset, .val (.long ww), .second] [(.int (if (ww &&& ((1 : Int64) <<< (bb &&& 0x3f).toInt64)) = (0 : Int64) then (0 : Int32) else (1 : Int32)))])) (fun t k => ?_) ?_
        · by_cases hc138_202 : (ww &&& ((1 : Int64) <<< (bb &&& 0x3f).toInt64)) = (0 : Int64)
          · refine XS.ifYes X189.here hx rfl (pc0 := 138) (pc' := 145) rfl (hb hby at_138) rfl ((if0 _ _).trans (teq ((lw_eq (ww &&& ((1 : Int64) <<< (bb &&& 0x3f).toInt64)) (0 : Int64)).mpr hc138_202)).1) (by decide) (by decide) ?_
            show Steps p.tables e below (T189.setTop (mkF m 145 #[.val (.long q1), .second, .val (.long q2), .second, .val (.long q3), .second, .val (.int p4), .val (.int p5), .val (.int p6), .val (.int (3 : Int32)), .val (.ref b176), .val (.ref b185), .val (.int vv), .val (.int kk), .val (.int bb), .unset, .val (.long ww), .second] [])) _
            refine XS.iconst X189.here hx rfl (hb hby at_145) ?_
            show Steps p.tables e below (T189.setTop (mkF m 146 #[.val (.long q1), .second, .val (.long q2), .second, .val (.long q3), .second, .val (.int p4), .val (.int p5), .val (.int p6), .val (.int (3 : Int32)), .val (.ref b176), .val (.ref b185), .val (.int vv), .val (.int kk), .val (.int bb), .unset, .val (.long ww), .second] [(.int (0 : Int32))])) _
            have j0 : (if (ww &&& ((1 : Int64) <<< (bb &&& 0x3f).toInt64)) = (0 : Int64) then (0 : Int32) else (1 : Int32)) = (0 : Int32) := by rw [if_pos hc138_202]
            rw [j0] at k
            exact k
          · refine XS.ifNo X189.here hx rfl (hb hby at_138) rfl ((if0 _ _).trans (feq (fun q => hc138_202 ((lw_eq (ww &&& ((1 : Int64) <<< (bb &&& 0x3f).toInt64)) (0 : Int64)).mp q))).1) ?_
            show Steps p.tables e below (T189.setTop (mkF m 141 #[.val (.long q1), .second, .val (.long q2), .second, .val (.long q3), .second, .val (.int p4), .val (.int p5), .val (.int p6), .val (.int (3 : Int32)), .val (.ref b176), .val (.ref b185), .val (.int vv), .val (.int kk), .val (.int bb), .unset, .val (.long ww), .second] [])) _
            refine XS.iconst X189.here hx rfl (hb hby at_141) ?_
            show Steps p.tables e below (T189.setTop (mkF m 142 #[.val (.long q1), .second, .val (.long q2), .second, .val (.long q3), .second, .val (.int p4), .val (.int p5), .val (.int p6), .val (.int (3 : Int32)), .val (.ref b176), .val (.ref b185), .val (.int vv), .val (.int kk), .val (.int bb), .unset, .val (.long ww), .second] [(.int (1 : Int32))])) _
            refine XS.goto X189.here hx rfl (pc0 := 142) (pc' := 146) rfl (hb hby at_142) (by decide) (by decide) ?_
            show Steps p.tables e below (T189.setTop (mkF m 146 #[.val (.long q1), .second, .val (.long q2), .second, .val (.long q3), .second, .val (.int p4), .val (.int p5), .val (.int p6), .val (.int (3 : Int32)), .val (.ref b176), .val (.ref b185), .val (.int vv), .val (.int kk), .val (.int bb), .unset, .val (.long ww), .second] [(.int (1 : Int32))])) _
            have j0 : (if (ww &&& ((1 : Int64) <<< (bb &&& 0x3f).toInt64)) = (0 : Int64) then (0 : Int32) else (1 : Int32)) = (1 : Int32) := by rw [if_neg hc138_202]
            rw [j0] at k
            exact k
        generalize hv_ee : (if (ww &&& ((1 : Int64) <<< (bb &&& 0x3f).toInt64)) = (0 : Int64) then (0 : Int32) else (1 : Int32)) = ee
        show EndsQ _ _ _ _ _ _ _ (T189.setTop (mkF m 146 #[.val (.long q1), .second, .val (.long q2), .second, .val (.long q3), .second, .val (.int p4), .val (.int p5), .val (.int p6), .val (.int (3 : Int32)), .val (.ref b176), .val (.ref b185), .val (.int vv), .val (.int kk), .val (.int bb), .unset, .val (.long ww), .second] [(.int ee)]))
        refine EndsQ.go (b := T189.setTop (mkF m 152 #[.val (.long q1), .second, .val (.long q2), .second, .val (.long q3), .second, .val (.int p4), .val (.int p5), .val (.int p6), .val (.int (3 : Int32)), .val (.ref b176), .val (.ref b185), .val (.int vv), .val (.int kk), .val (.int bb), .val (.int ee), .val (.long ww), .second] [(.int vv), (.ref b185)])) (fun t k => ?_) ?_
        · show Steps p.tables e below (T189.setTop (mkF m 146 #[.val (.long q1), .second, .val (.long q2), .second, .val (.long q3), .second, .val (.int p4), .val (.int p5), .val (.int p6), .val (.int (3 : Int32)), .val (.ref b176), .val (.ref b185), .val (.int vv), .val (.int kk), .val (.int bb), .unset, .val (.long ww), .second] [(.int ee)])) _
          refine XS.istore X189.here hx rfl (hb hby at_146) rfl (l' := #[.val (.long q1), .second, .val (.long q2), .second, .val (.long q3), .second, .val (.int p4), .val (.int p5), .val (.int p6), .val (.int (3 : Int32)), .val (.ref b176), .val (.ref b185), .val (.int vv), .val (.int kk), .val (.int bb), .val (.int ee), .val (.long ww), .second]) rfl ?_
          show Steps p.tables e below (T189.setTop (mkF m 148 #[.val (.long q1), .second, .val (.long q2), .second, .val (.long q3), .second, .val (.int p4), .val (.int p5), .val (.int p6), .val (.int (3 : Int32)), .val (.ref b176), .val (.ref b185), .val (.int vv), .val (.int kk), .val (.int bb), .val (.int ee), .val (.long ww), .second] [])) _
          refine XS.aload X189.here hx rfl (hb hby at_148) rfl rfl ?_
          show Steps p.tables e below (T189.setTop (mkF m 150 #[.val (.long q1), .second, .val (.long q2), .second, .val (.long q3), .second, .val (.int p4), .val (.int p5), .val (.int p6), .val (.int (3 : Int32)), .val (.ref b176), .val (.ref b185), .val (.int vv), .val (.int kk), .val (.int bb), .val (.int ee), .val (.long ww), .second] [(.ref b185)])) _
          refine XS.iload X189.here hx rfl (hb hby at_150) rfl ?_
          show Steps p.tables e below (T189.setTop (mkF m 152 #[.val (.long q1), .second, .val (.long q2), .second, .val (.long q3), .second, .val (.int p4), .val (.int p5), .val (.int p6), .val (.int (3 : Int32)), .val (.ref b176), .val (.ref b185), .val (.int vv), .val (.int kk), .val (.int bb), .val (.int ee), .val (.long ww), .second] [(.int vv), (.ref b185)])) _
          exact k
        have hsel : own_w vv < (2 : Int32) → (¬ own_w vv < 0 ∧ own_w vv < (2 : Int32)) ∧ ([(.long q1), (.long q2)] : List Value).getD (own_w vv).toNatClampNeg (.long (0 : Int64)) = .long ww := by
          intro hlt
          rw [hkw.1] at hlt ⊢
          rw [← hv_ww]
          rcases own_c3 kk hkw.2 with q | q | q | q
          · rw [q] at hlt ⊢; exact ⟨by decide, rfl⟩
          · rw [q] at hlt ⊢; exact ⟨by decide, rfl⟩
          · rw [q] at hlt ⊢; exact absurd hlt (by decide)
          · exact absurd hlt (own_gt2 kk (2 : Int32) q (by decide))
        have hz0 : ¬ kk < (2 : Int32) → ww = 0 := by
          intro hlt
          rw [← hv_ww]
          rcases own_c3 kk hkw.2 with q | q | q | q
          · rw [q] at hlt hc97_199 ⊢; exact absurd (by decide) hlt
          · rw [q] at hlt hc97_199 ⊢; exact absurd (by decide) hlt
          · rw [q] at hlt hc97_199 ⊢; exact hz2
          · exact absurd hc97_199 (own_gt2 kk (3 : Int32) q (by decide))
        obtain ⟨cq203, kq203, qa203, qb203, qc203⟩ := isOf hZ rfl Ex189
        obtain ⟨_, _, ⟨T203, L203, kk203, nn203⟩, -, X203, ⟨Lc203, hQ203, l203, y203, z203⟩, st203⟩ := X189.virtualBack hx (y := (⟨"com/example/sextant/sextant/ValueSet", "contains", "(I)Z"⟩ : MethodName)) (z := (⟨"com/example/sextant/sextant/ValueSet", "contains", "(I)Z"⟩ : MethodName)) hown (mvT hZ (hw _ (List.mem_of_getElem? (i := 13) rfl))) (mvT hZ (hw _ (List.mem_of_getElem? (i := 14) rfl))) (notFace_of_selects (args := #[]) (mvT hZ (hw _ (List.mem_of_getElem? (i := 16) rfl)))) (mvT hZ (hw _ (List.mem_of_getElem? (i := 16) rfl))) (mvT hZ (hw _ (List.mem_of_getElem? (i := 15) rfl))) (by decide) (backOf (W := 0) (rm3 l Z a0 hw [] b185 vv c189 kc189 (2 : Int32) [(.long q1), (.long q2)] ww T189.heap n0 f190 Fx189 Vx189 hsel) hZ (hw _ (List.mem_of_getElem? (i := 17) rfl)) (hw _ (List.mem_of_getElem? (i := 3) rfl)) (by decide) (by decide)) qa203 qc203 (g := (mkF m 152 #[.val (.long q1), .second, .val (.long q2), .second, .val (.long q3), .second, .val (.int p4), .val (.int p5), .val (.int p6), .val (.int (3 : Int32)), .val (.ref b176), .val (.ref b185), .val (.int vv), .val (.int kk), .val (.int bb), .val (.int ee), .val (.long ww), .second] [(.int vv), (.ref b185)])) rfl (by rw [hml]; rfl) (Steps.refl _) (argsL := [(.int vv)]) (rest := []) (lenOf pd_3 rfl) rfl (by show 2 * 0 + _ ≤ _; exact Nat.le_of_eq rfl) (hb hby at_152) (fun _ _ => ⟨rfl, rfl, (by decide : 3 + 0 ≤ _), (by decide : 6 + 0 ≤ _)⟩)
        dsimp only [Pt.U, Pt.locs, Pt.cells, Pt.slots] at X203 l203 y203 z203 st203 hQ203
        subst l203 y203 z203
        obtain ⟨rfl, Nq203, eq203⟩ := hQ203
        have N203 := Fr.app N189 Nq203
        refine EndsQ.go (fun t k => st203.trans k) ?_
        show EndsQ _ _ _ _ _ _ _ (T203.setTop (mkF m 155 #[.val (.long q1), .second, .val (.long q2), .second, .val (.long q3), .second, .val (.int p4), .val (.int p5), .val (.int p6), .val (.int (3 : Int32)), .val (.ref b176), .val (.ref b185), .val (.int vv), .val (.int kk), .val (.int bb), .val (.int ee), .val (.long ww), .second] [(.int (own_has vv (2 : Int32) ww))]))
        refine EndsQ.go (b := T203.setTop (mkF m 165 #[.val (.long q1), .second, .val (.long q2), .second, .val (.long q3), .second, .val (.int p4), .val (.int p5), .val (.int p6), .val (.int (3 : Int32)), .val (.ref b176), .val (.ref b185), .val (.int vv), .val (.int kk), .val (.int bb), .val (.int ee), .val (.long ww), .second] [(.int (1 : Int32))])) (fun t k => ?_) ?_
        · show Steps p.tables e below (T203.setTop (mkF m 155 #[.val (.long q1), .second, .val (.long q2), .second, .val (.long q3), .second, .val (.int p4), .val (.int p5), .val (.int p6), .val (.int (3 : Int32)), .val (.ref b176), .val (.ref b185), .val (.int vv), .val (.int kk), .val (.int bb), .val (.int ee), .val (.long ww), .second] [(.int (own_has vv (2 : Int32) ww))])) _
          refine XS.iload X203.here hx rfl (hb hby at_155) rfl ?_
          show Steps p.tables e below (T203.setTop (mkF m 157 #[.val (.long q1), .second, .val (.long q2), .second, .val (.long q3), .second, .val (.int p4), .val (.int p5), .val (.int p6), .val (.int (3 : Int32)), .val (.ref b176), .val (.ref b185), .val (.int vv), .val (.int kk), .val (.int bb), .val (.int ee), .val (.long ww), .second] [(.int ee), (.int (own_has vv (2 : Int32) ww))])) _
          refine XS.icmpNo X203.here hx rfl (hb hby at_157) rfl (teq ((own_hasB vv (2 : Int32) kk bb ww hb_v hkw.1 hv_bb hz0).trans hv_ee)).2 ?_
          show Steps p.tables e below (T203.setTop (mkF m 160 #[.val (.long q1), .second, .val (.long q2), .second, .val (.long q3), .second, .val (.int p4), .val (.int p5), .val (.int p6), .val (.int (3 : Int32)), .val (.ref b176), .val (.ref b185), .val (.int vv), .val (.int kk), .val (.int bb), .val (.int ee), .val (.long ww), .second] [])) _
          refine XS.iconst X203.here hx rfl (hb hby at_160) ?_
          show Steps p.tables e below (T203.setTop (mkF m 161 #[.val (.long q1), .second, .val (.long q2), .second, .val (.long q3), .second, .val (.int p4), .val (.int p5), .val (.int p6), .val (.int (3 : Int32)), .val (.ref b176), .val (.ref b185), .val (.int vv), .val (.int kk), .val (.int bb), .val (.int ee), .val (.long ww), .second] [(.int (1 : Int32))])) _
          refine XS.goto X203.here hx rfl (pc0 := 161) (pc' := 165) rfl (hb hby at_161) (by decide) (by decide) ?_
          show Steps p.tables e below (T203.setTop (mkF m 165 #[.val (.long q1), .second, .val (.long q2), .second, .val (.long q3), .second, .val (.int p4), .val (.int p5), .val (.int p6), .val (.int (3 : Int32)), .val (.ref b176), .val (.ref b185), .val (.int vv), .val (.int kk), .val (.int bb), .val (.int ee), .val (.long ww), .second] [(.int (1 : Int32))])) _
          exact k
        refine EndsQ.retN X203 hx Bd.notSynchronized (t := .boolean) Bd.returns (by simp) (hb hby at_165) (by decide) (by decide) ?_
        show Q0 Z q1 q2 q3 p4 p5 p6 h0 n0 (some (.int (nar .boolean (1 : Int32)))) T203.heap _
        rw [eq203]
        exact ⟨rfl, N203⟩
      · refine EndsQ.go (b := T189.setTop (mkF m 100 #[.val (.long q1), .second, .val (.long q2), .second, .val (.long q3), .second, .val (.int p4), .val (.int p5), .val (.int p6), .val (.int (3 : Int32)), .val (.ref b176), .val (.ref b185), .val (.int vv), .val (.int kk), .val (.int bb), .unset, .unset, .unset] [])) (fun t k => ?_) ?_
        · show Steps p.tables e below (T189.setTop (mkF m 97 #[.val (.long q1), .second, .val (.long q2), .second, .val (.long q3), .second, .val (.int p4), .val (.int p5), .val (.int p6), .val (.int (3 : Int32)), .val (.ref b176), .val (.ref b185), .val (.int vv), .val (.int kk), .val (.int bb), .unset, .unset, .unset] [(.int (3 : Int32)), (.int kk)])) _
          refine XS.icmpNo X189.here hx rfl (hb hby at_97) rfl (flt hc97_199).1 ?_
          show Steps p.tables e below (T189.setTop (mkF m 100 #[.val (.long q1), .second, .val (.long q2), .second, .val (.long q3), .second, .val (.int p4), .val (.int p5), .val (.int p6), .val (.int (3 : Int32)), .val (.ref b176), .val (.ref b185), .val (.int vv), .val (.int kk), .val (.int bb), .unset, .unset, .unset] [])) _
          exact k
        refine EndsQ.go (b := T189.setTop (mkF m 152 #[.val (.long q1), .second, .val (.long q2), .second, .val (.long q3), .second, .val (.int p4), .val (.int p5), .val (.int p6), .val (.int (3 : Int32)), .val (.ref b176), .val (.ref b185), .val (.int vv), .val (.int kk), .val (.int bb), .val (.int (0 : Int32)), .unset, .unset] [(.int vv), (.ref b185)])) (fun t k => ?_) ?_
        · show Steps p.tables e below (T189.setTop (mkF m 100 #[.val (.long q1), .second, .val (.long q2), .second, .val (.long q3), .second, .val (.int p4), .val (.int p5), .val (.int p6), .val (.int (3 : Int32)), .val (.ref b176), .val (.ref b185), .val (.int vv), .val (.int kk), .val (.int bb), .unset, .unset, .unset] [])) _
          refine XS.iconst X189.here hx rfl (hb hby at_100) ?_
          show Steps p.tables e below (T189.setTop (mkF m 101 #[.val (.long q1), .second, .val (.long q2), .second, .val (.long q3), .second, .val (.int p4), .val (.int p5), .val (.int p6), .val (.int (3 : Int32)), .val (.ref b176), .val (.ref b185), .val (.int vv), .val (.int kk), .val (.int bb), .unset, .unset, .unset] [(.int (0 : Int32))])) _
          refine XS.istore X189.here hx rfl (hb hby at_101) rfl (l' := #[.val (.long q1), .second, .val (.long q2), .second, .val (.long q3), .second, .val (.int p4), .val (.int p5), .val (.int p6), .val (.int (3 : Int32)), .val (.ref b176), .val (.ref b185), .val (.int vv), .val (.int kk), .val (.int bb), .val (.int (0 : Int32)), .unset, .unset]) rfl ?_
          show Steps p.tables e below (T189.setTop (mkF m 103 #[.val (.long q1), .second, .val (.long q2), .second, .val (.long q3), .second, .val (.int p4), .val (.int p5), .val (.int p6), .val (.int (3 : Int32)), .val (.ref b176), .val (.ref b185), .val (.int vv), .val (.int kk), .val (.int bb), .val (.int (0 : Int32)), .unset, .unset] [])) _
          refine XS.goto X189.here hx rfl (pc0 := 103) (pc' := 148) rfl (hb hby at_103) (by decide) (by decide) ?_
          show Steps p.tables e below (T189.setTop (mkF m 148 #[.val (.long q1), .second, .val (.long q2), .second, .val (.long q3), .second, .val (.int p4), .val (.int p5), .val (.int p6), .val (.int (3 : Int32)), .val (.ref b176), .val (.ref b185), .val (.int vv), .val (.int kk), .val (.int bb), .val (.int (0 : Int32)), .unset, .unset] [])) _
          refine XS.aload X189.here hx rfl (hb hby at_148) rfl rfl ?_
          show Steps p.tables e below (T189.setTop (mkF m 150 #[.val (.long q1), .second, .val (.long q2), .second, .val (.long q3), .second, .val (.int p4), .val (.int p5), .val (.int p6), .val (.int (3 : Int32)), .val (.ref b176), .val (.ref b185), .val (.int vv), .val (.int kk), .val (.int bb), .val (.int (0 : Int32)), .unset, .unset] [(.ref b185)])) _
          refine XS.iload X189.here hx rfl (hb hby at_150) rfl ?_
          show Steps p.tables e below (T189.setTop (mkF m 152 #[.val (.long q1), .second, .val (.long q2), .second, .val (.long q3), .second, .val (.int p4), .val (.int p5), .val (.int p6), .val (.int (3 : Int32)), .val (.ref b176), .val (.ref b185), .val (.int vv), .val (.int kk), .val (.int bb), .val (.int (0 : Int32)), .unset, .unset] [(.int vv), (.ref b185)])) _
          exact k
        obtain ⟨cq204, kq204, qa204, qb204, qc204⟩ := isOf hZ rfl Ex189
        obtain ⟨_, _, ⟨T204, L204, kk204, nn204⟩, -, X204, ⟨Lc204, hQ204, l204, y204, z204⟩, st204⟩ := X189.virtualBack hx (y := (⟨"com/example/sextant/sextant/ValueSet", "contains", "(I)Z"⟩ : MethodName)) (z := (⟨"com/example/sextant/sextant/ValueSet", "contains", "(I)Z"⟩ : MethodName)) hown (mvT hZ (hw _ (List.mem_of_getElem? (i := 13) rfl))) (mvT hZ (hw _ (List.mem_of_getElem? (i := 14) rfl))) (notFace_of_selects (args := #[]) (mvT hZ (hw _ (List.mem_of_getElem? (i := 16) rfl)))) (mvT hZ (hw _ (List.mem_of_getElem? (i := 16) rfl))) (mvT hZ (hw _ (List.mem_of_getElem? (i := 15) rfl))) (by decide) (backOf (W := 0) (rm3 l Z a0 hw [] b185 vv c189 kc189 (2 : Int32) [(.long q1), (.long q2)] (0 : Int64) T189.heap n0 f190 Fx189 Vx189 (fun hlt => absurd hlt (by rw [hkw.1]; exact own_mono kk (3 : Int32) (2 : Int32) hc97_199 (by decide)))) hZ (hw _ (List.mem_of_getElem? (i := 17) rfl)) (hw _ (List.mem_of_getElem? (i := 3) rfl)) (by decide) (by decide)) qa204 qc204 (g := (mkF m 152 #[.val (.long q1), .second, .val (.long q2), .second, .val (.long q3), .second, .val (.int p4), .val (.int p5), .val (.int p6), .val (.int (3 : Int32)), .val (.ref b176), .val (.ref b185), .val (.int vv), .val (.int kk), .val (.int bb), .val (.int (0 : Int32)), .unset, .unset] [(.int vv), (.ref b185)])) rfl (by rw [hml]; rfl) (Steps.refl _) (argsL := [(.int vv)]) (rest := []) (lenOf pd_3 rfl) rfl (by show 2 * 0 + _ ≤ _; exact Nat.le_of_eq rfl) (hb hby at_152) (fun _ _ => ⟨rfl, rfl, (by decide : 3 + 0 ≤ _), (by decide : 6 + 0 ≤ _)⟩)
        dsimp only [Pt.U, Pt.locs, Pt.cells, Pt.slots] at X204 l204 y204 z204 st204 hQ204
        subst l204 y204 z204
        obtain ⟨rfl, Nq204, eq204⟩ := hQ204
        have N204 := Fr.app N189 Nq204
        refine EndsQ.go (fun t k => st204.trans k) ?_
        show EndsQ _ _ _ _ _ _ _ (T204.setTop (mkF m 155 #[.val (.long q1), .second, .val (.long q2), .second, .val (.long q3), .second, .val (.int p4), .val (.int p5), .val (.int p6), .val (.int (3 : Int32)), .val (.ref b176), .val (.ref b185), .val (.int vv), .val (.int kk), .val (.int bb), .val (.int (0 : Int32)), .unset, .unset] [(.int (own_has vv (2 : Int32) (0 : Int64)))]))
        refine EndsQ.go (b := T204.setTop (mkF m 165 #[.val (.long q1), .second, .val (.long q2), .second, .val (.long q3), .second, .val (.int p4), .val (.int p5), .val (.int p6), .val (.int (3 : Int32)), .val (.ref b176), .val (.ref b185), .val (.int vv), .val (.int kk), .val (.int bb), .val (.int (0 : Int32)), .unset, .unset] [(.int (1 : Int32))])) (fun t k => ?_) ?_
        · show Steps p.tables e below (T204.setTop (mkF m 155 #[.val (.long q1), .second, .val (.long q2), .second, .val (.long q3), .second, .val (.int p4), .val (.int p5), .val (.int p6), .val (.int (3 : Int32)), .val (.ref b176), .val (.ref b185), .val (.int vv), .val (.int kk), .val (.int bb), .val (.int (0 : Int32)), .unset, .unset] [(.int (own_has vv (2 : Int32) (0 : Int64)))])) _
          refine XS.iload X204.here hx rfl (hb hby at_155) rfl ?_
          show Steps p.tables e below (T204.setTop (mkF m 157 #[.val (.long q1), .second, .val (.long q2), .second, .val (.long q3), .second, .val (.int p4), .val (.int p5), .val (.int p6), .val (.int (3 : Int32)), .val (.ref b176), .val (.ref b185), .val (.int vv), .val (.int kk), .val (.int bb), .val (.int (0 : Int32)), .unset, .unset] [(.int (0 : Int32)), (.int (own_has vv (2 : Int32) (0 : Int64)))])) _
          refine XS.icmpNo X204.here hx rfl (hb hby at_157) rfl (teq (own_hasA vv (2 : Int32) kk (0 : Int64) hkw.1 (own_mono kk (3 : Int32) (2 : Int32) hc97_199 (by decide)))).2 ?_
          show Steps p.tables e below (T204.setTop (mkF m 160 #[.val (.long q1), .second, .val (.long q2), .second, .val (.long q3), .second, .val (.int p4), .val (.int p5), .val (.int p6), .val (.int (3 : Int32)), .val (.ref b176), .val (.ref b185), .val (.int vv), .val (.int kk), .val (.int bb), .val (.int (0 : Int32)), .unset, .unset] [])) _
          refine XS.iconst X204.here hx rfl (hb hby at_160) ?_
          show Steps p.tables e below (T204.setTop (mkF m 161 #[.val (.long q1), .second, .val (.long q2), .second, .val (.long q3), .second, .val (.int p4), .val (.int p5), .val (.int p6), .val (.int (3 : Int32)), .val (.ref b176), .val (.ref b185), .val (.int vv), .val (.int kk), .val (.int bb), .val (.int (0 : Int32)), .unset, .unset] [(.int (1 : Int32))])) _
          refine XS.goto X204.here hx rfl (pc0 := 161) (pc' := 165) rfl (hb hby at_161) (by decide) (by decide) ?_
          show Steps p.tables e below (T204.setTop (mkF m 165 #[.val (.long q1), .second, .val (.long q2), .second, .val (.long q3), .second, .val (.int p4), .val (.int p5), .val (.int p6), .val (.int (3 : Int32)), .val (.ref b176), .val (.ref b185), .val (.int vv), .val (.int kk), .val (.int bb), .val (.int (0 : Int32)), .unset, .unset] [(.int (1 : Int32))])) _
          exact k
        refine EndsQ.retN X204 hx Bd.notSynchronized (t := .boolean) Bd.returns (by simp) (hb hby at_165) (by decide) (by decide) ?_
        show Q0 Z q1 q2 q3 p4 p5 p6 h0 n0 (some (.int (nar .boolean (1 : Int32)))) T204.heap _
        rw [eq204]
        exact ⟨rfl, N204⟩
    · have ht1 := trivial
      refine EndsQ.go (b := T189.setTop (mkF m 60 #[.val (.long q1), .second, .val (.long q2), .second, .val (.long q3), .second, .val (.int p4), .val (.int p5), .val (.int p6), .val (.int (3 : Int32)), .val (.ref b176), .val (.ref b185), .unset, .unset, .unset, .unset, .unset, .unset] [(.int (p6 &&& (1 : Int32)))])) (fun t k => ?_) ?_
      · show Steps p.tables e below (T189.setTop (mkF m 54 #[.val (.long q1), .second, .val (.long q2), .second, .val (.long q3), .second, .val (.int p4), .val (.int p5), .val (.int p6), .val (.int (3 : Int32)), .val (.ref b176), .unset, .unset, .unset, .unset, .unset, .unset, .unset] [(.ref b185)])) _
        refine XS.astore X189.here hx rfl (hb hby at_54) rfl rfl (l' := #[.val (.long q1), .second, .val (.long q2), .second, .val (.long q3), .second, .val (.int p4), .val (.int p5), .val (.int p6), .val (.int (3 : Int32)), .val (.ref b176), .val (.ref b185), .unset, .unset, .unset, .unset, .unset, .unset]) rfl ?_
        show Steps p.tables e below (T189.setTop (mkF m 56 #[.val (.long q1), .second, .val (.long q2), .second, .val (.long q3), .second, .val (.int p4), .val (.int p5), .val (.int p6), .val (.int (3 : Int32)), .val (.ref b176), .val (.ref b185), .unset, .unset, .unset, .unset, .unset, .unset] [])) _
        refine XS.iload X189.here hx rfl (hb hby at_56) rfl ?_
        show Steps p.tables e below (T189.setTop (mkF m 58 #[.val (.long q1), .second, .val (.long q2), .second, .val (.long q3), .second, .val (.int p4), .val (.int p5), .val (.int p6), .val (.int (3 : Int32)), .val (.ref b176), .val (.ref b185), .unset, .unset, .unset, .unset, .unset, .unset] [(.int p6)])) _
        refine XS.iconst X189.here hx rfl (hb hby at_58) ?_
        show Steps p.tables e below (T189.setTop (mkF m 59 #[.val (.long q1), .second, .val (.long q2), .second, .val (.long q3), .second, .val (.int p4), .val (.int p5), .val (.int p6), .val (.int (3 : Int32)), .val (.ref b176), .val (.ref b185), .unset, .unset, .unset, .unset, .unset, .unset] [(.int (1 : Int32)), (.int p6)])) _
        refine XS.iand X189.here hx rfl (hb hby at_59) rfl ?_
        show Steps p.tables e below (T189.setTop (mkF m 60 #[.val (.long q1), .second, .val (.long q2), .second, .val (.long q3), .second, .val (.int p4), .val (.int p5), .val (.int p6), .val (.int (3 : Int32)), .val (.ref b176), .val (.ref b185), .unset, .unset, .unset, .unset, .unset, .unset] [(.int (p6 &&& (1 : Int32)))])) _
        exact k
      refine EndsQ.go (b := T189.setTop (mkF m 77 #[.val (.long q1), .second, .val (.long q2), .second, .val (.long q3), .second, .val (.int p4), .val (.int p5), .val (.int p6), .val (.int (3 : Int32)), .val (.ref b176), .val (.ref b185), .unset, .unset, .unset, .unset, .unset, .unset] [(.int (if (p6 &&& (1 : Int32)) = (0 : Int32) then (p5 &&& (255 : Int32)) else (p5 &&& (2147483647 : Int32))))])) (fun t k => ?_) ?_
      · by_cases hc60_205 : (p6 &&& (1 : Int32)) = (0 : Int32)
        · refine XS.ifYes X189.here hx rfl (pc0 := 60) (pc' := 71) rfl (hb hby at_60) rfl ((if0 _ _).trans (teq hc60_205).1) (by decide) (by decide) ?_
          show Steps p.tables e below (T189.setTop (mkF m 71 #[.val (.long q1), .second, .val (.long q2), .second, .val (.long q3), .second, .val (.int p4), .val (.int p5), .val (.int p6), .val (.int (3 : Int32)), .val (.ref b176), .val (.ref b185), .unset, .unset, .unset, .unset, .unset, .unset] [])) _
          refine XS.iload X189.here hx rfl (hb hby at_71) rfl ?_
          show Steps p.tables e below (T189.setTop (mkF m 73 #[.val (.long q1), .second, .val (.long q2), .second, .val (.long q3), .second, .val (.int p4), .val (.int p5), .val (.int p6), .val (.int (3 : Int32)), .val (.ref b176), .val (.ref b185), .unset, .unset, .unset, .unset, .unset, .unset] [(.int p5)])) _
          refine XS.sipush X189.here hx rfl (hb hby at_73) ?_
          show Steps p.tables e below (T189.setTop (mkF m 76 #[.val (.long q1), .second, .val (.long q2), .second, .val (.long q3), .second, .val (.int p4), .val (.int p5), .val (.int p6), .val (.int (3 : Int32)), .val (.ref b176), .val (.ref b185), .unset, .unset, .unset, .unset, .unset, .unset] [(.int (255 : Int32)), (.int p5)])) _
          refine XS.iand X189.here hx rfl (hb hby at_76) rfl ?_
          show Steps p.tables e below (T189.setTop (mkF m 77 #[.val (.long q1), .second, .val (.long q2), .second, .val (.long q3), .second, .val (.int p4), .val (.int p5), .val (.int p6), .val (.int (3 : Int32)), .val (.ref b176), .val (.ref b185), .unset, .unset, .unset, .unset, .unset, .unset] [(.int (p5 &&& (255 : Int32)))])) _
          have j0 : (if (p6 &&& (1 : Int32)) = (0 : Int32) then (p5 &&& (255 : Int32)) else (p5 &&& (2147483647 : Int32))) = (p5 &&& (255 : Int32)) := by rw [if_pos hc60_205]
          rw [j0] at k
          exact k
        · refine XS.ifNo X189.here hx rfl (hb hby at_60) rfl ((if0 _ _).trans (feq hc60_205).1) ?_
          show Steps p.tables e below (T189.setTop (mkF m 63 #[.val (.long q1), .second, .val (.long q2), .second, .val (.long q3), .second, .val (.int p4), .val (.int p5), .val (.int p6), .val (.int (3 : Int32)), .val (.ref b176), .val (.ref b185), .unset, .unset, .unset, .unset, .unset, .unset] [])) _
          refine XS.iload X189.here hx rfl (hb hby at_63) rfl ?_
          show Steps p.tables e below (T189.setTop (mkF m 65 #[.val (.long q1), .second, .val (.long q2), .second, .val (.long q3), .second, .val (.int p4), .val (.int p5), .val (.int p6), .val (.int (3 : Int32)), .val (.ref b176), .val (.ref b185), .unset, .unset, .unset, .unset, .unset, .unset] [(.int p5)])) _
          refine X189.ldcInt hx hown (mvT hZ (hw _ (List.mem_of_getElem? (i := 12) rfl))) (g := (mkF m 65 #[.val (.long q1), .second, .val (.long q2), .second, .val (.long q3), .second, .val (.int p4), .val (.int p5), .val (.int p6), .val (.int (3 : Int32)), .val (.ref b176), .val (.ref b185), .unset, .unset, .unset, .unset, .unset, .unset] [(.int p5)])) rfl (hb hby at_65) _ ?_
          show Steps p.tables e below (T189.setTop (mkF m 67 #[.val (.long q1), .second, .val (.long q2), .second, .val (.long q3), .second, .val (.int p4), .val (.int p5), .val (.int p6), .val (.int (3 : Int32)), .val (.ref b176), .val (.ref b185), .unset, .unset, .unset, .unset, .unset, .unset] [(.int (2147483647 : Int32)), (.int p5)])) _
          refine XS.iand X189.here hx rfl (hb hby at_67) rfl ?_
          show Steps p.tables e below (T189.setTop (mkF m 68 #[.val (.long q1), .second, .val (.long q2), .second, .val (.long q3), .second, .val (.int p4), .val (.int p5), .val (.int p6), .val (.int (3 : Int32)), .val (.ref b176), .val (.ref b185), .unset, .unset, .unset, .unset, .unset, .unset] [(.int (p5 &&& (2147483647 : Int32)))])) _
          refine XS.goto X189.here hx rfl (pc0 := 68) (pc' := 77) rfl (hb hby at_68) (by decide) (by decide) ?_
          show Steps p.tables e below (T189.setTop (mkF m 77 #[.val (.long q1), .second, .val (.long q2), .second, .val (.long q3), .second, .val (.int p4), .val (.int p5), .val (.int p6), .val (.int (3 : Int32)), .val (.ref b176), .val (.ref b185), .unset, .unset, .unset, .unset, .unset, .unset] [(.int (p5 &&& (2147483647 : Int32)))])) _
          have j0 : (if (p6 &&& (1 : Int32)) = (0 : Int32) then (p5 &&& (255 : Int32)) else (p5 &&& (2147483647 : Int32))) = (p5 &&& (2147483647 : Int32)) := by rw [if_neg hc60_205]
          rw [j0] at k
          exact k
      generalize hv_vv : (if (p6 &&& (1 : Int32)) = (0 : Int32) then (p5 &&& (255 : Int32)) else (p5 &&& (2147483647 : Int32))) = vv
      have hb_v : 0 ≤ vv.toInt := by rw [← hv_vv]; exact own_v p5 p6
      have hkw := own_kw vv hb_v
      show EndsQ _ _ _ _ _ _ _ (T189.setTop (mkF m 77 #[.val (.long q1), .second, .val (.long q2), .second, .val (.long q3), .second, .val (.int p4), .val (.int p5), .val (.int p6), .val (.int (3 : Int32)), .val (.ref b176), .val (.ref b185), .unset, .unset, .unset, .unset, .unset, .unset] [(.int vv)]))
      refine EndsQ.go (b := T189.setTop (mkF m 86 #[.val (.long q1), .second, .val (.long q2), .second, .val (.long q3), .second, .val (.int p4), .val (.int p5), .val (.int p6), .val (.int (3 : Int32)), .val (.ref b176), .val (.ref b185), .val (.int vv), .val (.int (vv / (64 : Int32))), .unset, .unset, .unset, .unset] [])) (fun t k => ?_) ?_
      · show Steps p.tables e below (T189.setTop (mkF m 77 #[.val (.long q1), .second, .val (.long q2), .second, .val (.long q3), .second, .val (.int p4), .val (.int p5), .val (.int p6), .val (.int (3 : Int32)), .val (.ref b176), .val (.ref b185), .unset, .unset, .unset, .unset, .unset, .unset] [(.int vv)])) _
        refine XS.istore X189.here hx rfl (hb hby at_77) rfl (l' := #[.val (.long q1), .second, .val (.long q2), .second, .val (.long q3), .second, .val (.int p4), .val (.int p5), .val (.int p6), .val (.int (3 : Int32)), .val (.ref b176), .val (.ref b185), .val (.int vv), .unset, .unset, .unset, .unset, .unset]) rfl ?_
        show Steps p.tables e below (T189.setTop (mkF m 79 #[.val (.long q1), .second, .val (.long q2), .second, .val (.long q3), .second, .val (.int p4), .val (.int p5), .val (.int p6), .val (.int (3 : Int32)), .val (.ref b176), .val (.ref b185), .val (.int vv), .unset, .unset, .unset, .unset, .unset] [])) _
        refine XS.iload X189.here hx rfl (hb hby at_79) rfl ?_
        show Steps p.tables e below (T189.setTop (mkF m 81 #[.val (.long q1), .second, .val (.long q2), .second, .val (.long q3), .second, .val (.int p4), .val (.int p5), .val (.int p6), .val (.int (3 : Int32)), .val (.ref b176), .val (.ref b185), .val (.int vv), .unset, .unset, .unset, .unset, .unset] [(.int vv)])) _
        refine XS.bipush X189.here hx rfl (hb hby at_81) ?_
        show Steps p.tables e below (T189.setTop (mkF m 83 #[.val (.long q1), .second, .val (.long q2), .second, .val (.long q3), .second, .val (.int p4), .val (.int p5), .val (.int p6), .val (.int (3 : Int32)), .val (.ref b176), .val (.ref b185), .val (.int vv), .unset, .unset, .unset, .unset, .unset] [(.int (64 : Int32)), (.int vv)])) _
        refine XS.idiv X189.here hx rfl (hb hby at_83) rfl (by decide) ?_
        show Steps p.tables e below (T189.setTop (mkF m 84 #[.val (.long q1), .second, .val (.long q2), .second, .val (.long q3), .second, .val (.int p4), .val (.int p5), .val (.int p6), .val (.int (3 : Int32)), .val (.ref b176), .val (.ref b185), .val (.int vv), .unset, .unset, .unset, .unset, .unset] [(.int (vv / (64 : Int32)))])) _
        refine XS.istore X189.here hx rfl (hb hby at_84) rfl (l' := #[.val (.long q1), .second, .val (.long q2), .second, .val (.long q3), .second, .val (.int p4), .val (.int p5), .val (.int p6), .val (.int (3 : Int32)), .val (.ref b176), .val (.ref b185), .val (.int vv), .val (.int (vv / (64 : Int32))), .unset, .unset, .unset, .unset]) rfl ?_
        show Steps p.tables e below (T189.setTop (mkF m 86 #[.val (.long q1), .second, .val (.long q2), .second, .val (.long q3), .second, .val (.int p4), .val (.int p5), .val (.int p6), .val (.int (3 : Int32)), .val (.ref b176), .val (.ref b185), .val (.int vv), .val (.int (vv / (64 : Int32))), .unset, .unset, .unset, .unset] [])) _
        exact k
      generalize hv_kk : (vv / (64 : Int32)) = kk
      rw [hv_kk] at hkw
      show EndsQ _ _ _ _ _ _ _ (T189.setTop (mkF m 86 #[.val (.long q1), .second, .val (.long q2), .second, .val (.long q3), .second, .val (.int p4), .val (.int p5), .val (.int p6), .val (.int (3 : Int32)), .val (.ref b176), .val (.ref b185), .val (.int vv), .val (.int kk), .unset, .unset, .unset, .unset] []))
      refine EndsQ.go (b := T189.setTop (mkF m 93 #[.val (.long q1), .second, .val (.long q2), .second, .val (.long q3), .second, .val (.int p4), .val (.int p5), .val (.int p6), .val (.int (3 : Int32)), .val (.ref b176), .val (.ref b185), .val (.int vv), .val (.int kk), .val (.int (vv % (64 : Int32))), .unset, .unset, .unset] [])) (fun t k => ?_) ?_
      · show Steps p.tables e below (T189.setTop (mkF m 86 #[.val (.long q1), .second, .val (.long q2), .second, .val (.long q3), .second, .val (.int p4), .val (.int p5), .val (.int p6), .val (.int (3 : Int32)), .val (.ref b176), .val (.ref b185), .val (.int vv), .val (.int kk), .unset, .unset, .unset, .unset] [])) _
        refine XS.iload X189.here hx rfl (hb hby at_86) rfl ?_
        show Steps p.tables e below (T189.setTop (mkF m 88 #[.val (.long q1), .second, .val (.long q2), .second, .val (.long q3), .second, .val (.int p4), .val (.int p5), .val (.int p6), .val (.int (3 : Int32)), .val (.ref b176), .val (.ref b185), .val (.int vv), .val (.int kk), .unset, .unset, .unset, .unset] [(.int vv)])) _
        refine XS.bipush X189.here hx rfl (hb hby at_88) ?_
        show Steps p.tables e below (T189.setTop (mkF m 90 #[.val (.long q1), .second, .val (.long q2), .second, .val (.long q3), .second, .val (.int p4), .val (.int p5), .val (.int p6), .val (.int (3 : Int32)), .val (.ref b176), .val (.ref b185), .val (.int vv), .val (.int kk), .unset, .unset, .unset, .unset] [(.int (64 : Int32)), (.int vv)])) _
        refine iremM X189 hx rfl (hb hby at_90) rfl (by decide) ?_
        show Steps p.tables e below (T189.setTop (mkF m 91 #[.val (.long q1), .second, .val (.long q2), .second, .val (.long q3), .second, .val (.int p4), .val (.int p5), .val (.int p6), .val (.int (3 : Int32)), .val (.ref b176), .val (.ref b185), .val (.int vv), .val (.int kk), .unset, .unset, .unset, .unset] [(.int (vv % (64 : Int32)))])) _
        refine XS.istore X189.here hx rfl (hb hby at_91) rfl (l' := #[.val (.long q1), .second, .val (.long q2), .second, .val (.long q3), .second, .val (.int p4), .val (.int p5), .val (.int p6), .val (.int (3 : Int32)), .val (.ref b176), .val (.ref b185), .val (.int vv), .val (.int kk), .val (.int (vv % (64 : Int32))), .unset, .unset, .unset]) rfl ?_
        show Steps p.tables e below (T189.setTop (mkF m 93 #[.val (.long q1), .second, .val (.long q2), .second, .val (.long q3), .second, .val (.int p4), .val (.int p5), .val (.int p6), .val (.int (3 : Int32)), .val (.ref b176), .val (.ref b185), .val (.int vv), .val (.int kk), .val (.int (vv % (64 : Int32))), .unset, .unset, .unset] [])) _
        exact k
      generalize hv_bb : (vv % (64 : Int32)) = bb
      show EndsQ _ _ _ _ _ _ _ (T189.setTop (mkF m 93 #[.val (.long q1), .second, .val (.long q2), .second, .val (.long q3), .second, .val (.int p4), .val (.int p5), .val (.int p6), .val (.int (3 : Int32)), .val (.ref b176), .val (.ref b185), .val (.int vv), .val (.int kk), .val (.int bb), .unset, .unset, .unset] []))
      refine EndsQ.go (b := T189.setTop (mkF m 97 #[.val (.long q1), .second, .val (.long q2), .second, .val (.long q3), .second, .val (.int p4), .val (.int p5), .val (.int p6), .val (.int (3 : Int32)), .val (.ref b176), .val (.ref b185), .val (.int vv), .val (.int kk), .val (.int bb), .unset, .unset, .unset] [(.int (3 : Int32)), (.int kk)])) (fun t k => ?_) ?_
      · show Steps p.tables e below (T189.setTop (mkF m 93 #[.val (.long q1), .second, .val (.long q2), .second, .val (.long q3), .second, .val (.int p4), .val (.int p5), .val (.int p6), .val (.int (3 : Int32)), .val (.ref b176), .val (.ref b185), .val (.int vv), .val (.int kk), .val (.int bb), .unset, .unset, .unset] [])) _
        refine XS.iload X189.here hx rfl (hb hby at_93) rfl ?_
        show Steps p.tables e below (T189.setTop (mkF m 95 #[.val (.long q1), .second, .val (.long q2), .second, .val (.long q3), .second, .val (.int p4), .val (.int p5), .val (.int p6), .val (.int (3 : Int32)), .val (.ref b176), .val (.ref b185), .val (.int vv), .val (.int kk), .val (.int bb), .unset, .unset, .unset] [(.int kk)])) _
        refine XS.iload X189.here hx rfl (hb hby at_95) rfl ?_
        show Steps p.tables e below (T189.setTop (mkF m 97 #[.val (.long q1), .second, .val (.long q2), .second, .val (.long q3), .second, .val (.int p4), .val (.int p5), .val (.int p6), .val (.int (3 : Int32)), .val (.ref b176), .val (.ref b185), .val (.int vv), .val (.int kk), .val (.int bb), .unset, .unset, .unset] [(.int (3 : Int32)), (.int kk)])) _
        exact k
      by_cases hc97_206 : kk < (3 : Int32)
      · refine EndsQ.go (b := T189.setTop (mkF m 106 #[.val (.long q1), .second, .val (.long q2), .second, .val (.long q3), .second, .val (.int p4), .val (.int p5), .val (.int p6), .val (.int (3 : Int32)), .val (.ref b176), .val (.ref b185), .val (.int vv), .val (.int kk), .val (.int bb), .unset, .unset, .unset] [])) (fun t k => ?_) ?_
        · show Steps p.tables e below (T189.setTop (mkF m 97 #[.val (.long q1), .second, .val (.long q2), .second, .val (.long q3), .second, .val (.int p4), .val (.int p5), .val (.int p6), .val (.int (3 : Int32)), .val (.ref b176), .val (.ref b185), .val (.int vv), .val (.int kk), .val (.int bb), .unset, .unset, .unset] [(.int (3 : Int32)), (.int kk)])) _
          refine XS.icmpYes X189.here hx rfl (pc0 := 97) (pc' := 106) rfl (hb hby at_97) rfl (tlt hc97_206).1 (by decide) (by decide) ?_
          show Steps p.tables e below (T189.setTop (mkF m 106 #[.val (.long q1), .second, .val (.long q2), .second, .val (.long q3), .second, .val (.int p4), .val (.int p5), .val (.int p6), .val (.int (3 : Int32)), .val (.ref b176), .val (.ref b185), .val (.int vv), .val (.int kk), .val (.int bb), .unset, .unset, .unset] [])) _
          exact k
        refine EndsQ.go (b := T189.setTop (mkF m 108 #[.val (.long q1), .second, .val (.long q2), .second, .val (.long q3), .second, .val (.int p4), .val (.int p5), .val (.int p6), .val (.int (3 : Int32)), .val (.ref b176), .val (.ref b185), .val (.int vv), .val (.int kk), .val (.int bb), .unset, .unset, .unset] [(.int kk)])) (fun t k => ?_) ?_
        · show Steps p.tables e below (T189.setTop (mkF m 106 #[.val (.long q1), .second, .val (.long q2), .second, .val (.long q3), .second, .val (.int p4), .val (.int p5), .val (.int p6), .val (.int (3 : Int32)), .val (.ref b176), .val (.ref b185), .val (.int vv), .val (.int kk), .val (.int bb), .unset, .unset, .unset] [])) _
          refine XS.iload X189.here hx rfl (hb hby at_106) rfl ?_
          show Steps p.tables e below (T189.setTop (mkF m 108 #[.val (.long q1), .second, .val (.long q2), .second, .val (.long q3), .second, .val (.int p4), .val (.int p5), .val (.int p6), .val (.int (3 : Int32)), .val (.ref b176), .val (.ref b185), .val (.int vv), .val (.int kk), .val (.int bb), .unset, .unset, .unset] [(.int kk)])) _
          exact k
        refine EndsQ.go (b := T189.setTop (mkF m 127 #[.val (.long q1), .second, .val (.long q2), .second, .val (.long q3), .second, .val (.int p4), .val (.int p5), .val (.int p6), .val (.int (3 : Int32)), .val (.ref b176), .val (.ref b185), .val (.int vv), .val (.int kk), .val (.int bb), .unset, .unset, .unset] [(.long (if kk = (0 : Int32) then q1 else (if kk = (1 : Int32) then q2 else q3)))])) (fun t k => ?_) ?_
        · by_cases hc108_207 : kk = (0 : Int32)
          · refine XS.ifNo X189.here hx rfl (hb hby at_108) rfl ((if0 _ _).trans (teq hc108_207).2) ?_
            show Steps p.tables e below (T189.setTop (mkF m 111 #[.val (.long q1), .second, .val (.long q2), .second, .val (.long q3), .second, .val (.int p4), .val (.int p5), .val (.int p6), .val (.int (3 : Int32)), .val (.ref b176), .val (.ref b185), .val (.int vv), .val (.int kk), .val (.int bb), .unset, .unset, .unset] [])) _
            refine XS.lloadN X189.here hx rfl (hb hby at_111) rfl ?_
            show Steps p.tables e below (T189.setTop (mkF m 112 #[.val (.long q1), .second, .val (.long q2), .second, .val (.long q3), .second, .val (.int p4), .val (.int p5), .val (.int p6), .val (.int (3 : Int32)), .val (.ref b176), .val (.ref b185), .val (.int vv), .val (.int kk), .val (.int bb), .unset, .unset, .unset] [(.long q1)])) _
            refine XS.goto X189.here hx rfl (pc0 := 112) (pc' := 127) rfl (hb hby at_112) (by decide) (by decide) ?_
            show Steps p.tables e below (T189.setTop (mkF m 127 #[.val (.long q1), .second, .val (.long q2), .second, .val (.long q3), .second, .val (.int p4), .val (.int p5), .val (.int p6), .val (.int (3 : Int32)), .val (.ref b176), .val (.ref b185), .val (.int vv), .val (.int kk), .val (.int bb), .unset, .unset, .unset] [(.long q1)])) _
            have j0 : (if kk = (0 : Int32) then q1 else (if kk = (1 : Int32) then q2 else q3)) = q1 := by rw [if_pos hc108_207]
            rw [j0] at k
            exact k
          · refine XS.ifYes X189.here hx rfl (pc0 := 108) (pc' := 115) rfl (hb hby at_108) rfl ((if0 _ _).trans (feq hc108_207).2) (by decide) (by decide) ?_
            show Steps p.tables e below (T189.setTop (mkF m 115 #[.val (.long q1), .second, .val (.long q2), .second, .val (.long q3), .second, .val (.int p4), .val (.int p5), .val (.int p6), .val (.int (3 : Int32)), .val (.ref b176), .val (.ref b185), .val (.int vv), .val (.int kk), .val (.int bb), .unset, .unset, .unset] [])) _
            refine XS.iload X189.here hx rfl (hb hby at_115) rfl ?_
            show Steps p.tables e below (T189.setTop (mkF m 117 #[.val (.long q1), .second, .val (.long q2), .second, .val (.long q3), .second, .val (.int p4), .val (.int p5), .val (.int p6), .val (.int (3 : Int32)), .val (.ref b176), .val (.ref b185), .val (.int vv), .val (.int kk), .val (.int bb), .unset, .unset, .unset] [(.int kk)])) _
            refine XS.iconst X189.here hx rfl (hb hby at_117) ?_
            show Steps p.tables e below (T189.setTop (mkF m 118 #[.val (.long q1), .second, .val (.long q2), .second, .val (.long q3), .second, .val (.int p4), .val (.int p5), .val (.int p6), .val (.int (3 : Int32)), .val (.ref b176), .val (.ref b185), .val (.int vv), .val (.int kk), .val (.int bb), .unset, .unset, .unset] [(.int (1 : Int32)), (.int kk)])) _
            by_cases hc118_208 : kk = (1 : Int32)
            · refine XS.icmpNo X189.here hx rfl (hb hby at_118) rfl (teq hc118_208).2 ?_
              show Steps p.tables e below (T189.setTop (mkF m 121 #[.val (.long q1), .second, .val (.long q2), .second, .val (.long q3), .second, .val (.int p4), .val (.int p5), .val (.int p6), .val (.int (3 : Int32)), .val (.ref b176), .val (.ref b185), .val (.int vv), .val (.int kk), .val (.int bb), .unset, .unset, .unset] [])) _
              refine XS.lloadN X189.here hx rfl (hb hby at_121) rfl ?_
              show Steps p.tables e below (T189.setTop (mkF m 122 #[.val (.long q1), .second, .val (.long q2), .second, .val (.long q3), .second, .val (.int p4), .val (.int p5), .val (.int p6), .val (.int (3 : Int32)), .val (.ref b176), .val (.ref b185), .val (.int vv), .val (.int kk), .val (.int bb), .unset, .unset, .unset] [(.long q2)])) _
              refine XS.goto X189.here hx rfl (pc0 := 122) (pc' := 127) rfl (hb hby at_122) (by decide) (by decide) ?_
              show Steps p.tables e below (T189.setTop (mkF m 127 #[.val (.long q1), .second, .val (.long q2), .second, .val (.long q3), .second, .val (.int p4), .val (.int p5), .val (.int p6), .val (.int (3 : Int32)), .val (.ref b176), .val (.ref b185), .val (.int vv), .val (.int kk), .val (.int bb), .unset, .unset, .unset] [(.long q2)])) _
              have j0 : (if kk = (0 : Int32) then q1 else (if kk = (1 : Int32) then q2 else q3)) = q2 := by rw [if_neg hc108_207, if_pos hc118_208]
              rw [j0] at k
              exact k
            · refine XS.icmpYes X189.here hx rfl (pc0 := 118) (pc' := 125) rfl (hb hby at_118) rfl (feq hc118_208).2 (by decide) (by decide) ?_
              show Steps p.tables e below (T189.setTop (mkF m 125 #[.val (.long q1), .second, .val (.long q2), .second, .val (.long q3), .second, .val (.int p4), .val (.int p5), .val (.int p6), .val (.int (3 : Int32)), .val (.ref b176), .val (.ref b185), .val (.int vv), .val (.int kk), .val (.int bb), .unset, .unset, .unset] [])) _
              refine XS.lload X189.here hx rfl (hb hby at_125) rfl ?_
              show Steps p.tables e below (T189.setTop (mkF m 127 #[.val (.long q1), .second, .val (.long q2), .second, .val (.long q3), .second, .val (.int p4), .val (.int p5), .val (.int p6), .val (.int (3 : Int32)), .val (.ref b176), .val (.ref b185), .val (.int vv), .val (.int kk), .val (.int bb), .unset, .unset, .unset] [(.long q3)])) _
              have j0 : (if kk = (0 : Int32) then q1 else (if kk = (1 : Int32) then q2 else q3)) = q3 := by rw [if_neg hc108_207, if_neg hc118_208]
              rw [j0] at k
              exact k
        generalize hv_ww : (if kk = (0 : Int32) then q1 else (if kk = (1 : Int32) then q2 else q3)) = ww
        show EndsQ _ _ _ _ _ _ _ (T189.setTop (mkF m 127 #[.val (.long q1), .second, .val (.long q2), .second, .val (.long q3), .second, .val (.int p4), .val (.int p5), .val (.int p6), .val (.int (3 : Int32)), .val (.ref b176), .val (.ref b185), .val (.int vv), .val (.int kk), .val (.int bb), .unset, .unset, .unset] [(.long ww)]))
        refine EndsQ.go (b := T189.setTop (mkF m 138 #[.val (.long q1), .second, .val (.long q2), .second, .val (.long q3), .second, .val (.int p4), .val (.int p5), .val (.int p6), .val (.int (3 : Int32)), .val (.ref b176), .val (.ref b185), .val (.int vv), .val (.int kk), .val (.int bb), .unset, .val (.long ww), .second] [(.int (lcmpW (ww &&& ((1 : Int64) <<< (bb &&& 0x3f).toInt64)) (0 : Int64)))])) (fun t k => ?_) ?_
        · show Steps p.tables e below (T189.setTop (mkF m 127 #[.val (.long q1), .second, .val (.long q2), .second, .val (.long q3), .second, .val (.int p4), .val (.int p5), .val (.int p6), .val (.int (3 : Int32)), .val (.ref b176), .val (.ref b185), .val (.int vv), .val (.int kk), .val (.int bb), .unset, .unset, .unset] [(.long ww)])) _
          refine XS.lstore X189.here hx rfl (hb hby at_127) rfl (l' := #[.val (.long q1), .second, .val (.long q2), .second, .val (.long q3), .second, .val (.int p4), .val (.int p5), .val (.int p6), .val (.int (3 : Int32)), .val (.ref b176), .val (.ref b185), .val (.int vv), .val (.int kk), .val (.int bb), .unset, .val (.long ww), .second]) rfl ?_
          show Steps p.tables e below (T189.setTop (mkF m 129 #[.val (.long q1), .second, .val (.long q2), .second, .val (.long q3), .second, .val (.int p4), .val (.int p5), .val (.int p6), .val (.int (3 : Int32)), .val (.ref b176), .val (.ref b185), .val (.int vv), .val (.int kk), .val (.int bb), .unset, .val (.long ww), .second] [])) _
          refine XS.lload X189.here hx rfl (hb hby at_129) rfl ?_
          show Steps p.tables e below (T189.setTop (mkF m 131 #[.val (.long q1), .second, .val (.long q2), .second, .val (.long q3), .second, .val (.int p4), .val (.int p5), .val (.int p6), .val (.int (3 : Int32)), .val (.ref b176), .val (.ref b185), .val (.int vv), .val (.int kk), .val (.int bb), .unset, .val (.long ww), .second] [(.long ww)])) _
          refine XS.lconst X189.here hx rfl (hb hby at_131) ?_
          show Steps p.tables e below (T189.setTop (mkF m 132 #[.val (.long q1), .second, .val (.long q2), .second, .val (.long q3), .second, .val (.int p4), .val (.int p5), .val (.int p6), .val (.int (3 : Int32)), .val (.ref b176), .val (.ref b185), .val (.int vv), .val (.int kk), .val (.int bb), .unset, .val (.long ww), .second] [(.long (1 : Int64)), (.long ww)])) _
          refine XS.iload X189.here hx rfl (hb hby at_132) rfl ?_
          show Steps p.tables e below (T189.setTop (mkF m 134 #[.val (.long q1), .second, .val (.long q2), .second, .val (.long q3), .second, .val (.int p4), .val (.int p5), .val (.int p6), .val (.int (3 : Int32)), .val (.ref b176), .val (.ref b185), .val (.int vv), .val (.int kk), .val (.int bb), .unset, .val (.long ww), .second] [(.int bb), (.long (1 : Int64)), (.long ww)])) _
          refine XS.lshl X189.here hx rfl (hb hby at_134) rfl ?_
          show Steps p.tables e below (T189.setTop (mkF m 135 #[.val (.long q1), .second, .val (.long q2), .second, .val (.long q3), .second, .val (.int p4), .val (.int p5), .val (.int p6), .val (.int (3 : Int32)), .val (.ref b176), .val (.ref b185), .val (.int vv), .val (.int kk), .val (.int bb), .unset, .val (.long ww), .second] [(.long ((1 : Int64) <<< (bb &&& 0x3f).toInt64)), (.long ww)])) _
          refine XS.land X189.here hx rfl (hb hby at_135) rfl ?_
          show Steps p.tables e below (T189.setTop (mkF m 136 #[.val (.long q1), .second, .val (.long q2), .second, .val (.long q3), .second, .val (.int p4), .val (.int p5), .val (.int p6), .val (.int (3 : Int32)), .val (.ref b176), .val (.ref b185), .val (.int vv), .val (.int kk), .val (.int bb), .unset, .val (.long ww), .second] [(.long (ww &&& ((1 : Int64) <<< (bb &&& 0x3f).toInt64)))])) _
          refine XS.lconst X189.here hx rfl (hb hby at_136) ?_
          show Steps p.tables e below (T189.setTop (mkF m 137 #[.val (.long q1), .second, .val (.long q2), .second, .val (.long q3), .second, .val (.int p4), .val (.int p5), .val (.int p6), .val (.int (3 : Int32)), .val (.ref b176), .val (.ref b185), .val (.int vv), .val (.int kk), .val (.int bb), .unset, .val (.long ww), .second] [(.long (0 : Int64)), (.long (ww &&& ((1 : Int64) <<< (bb &&& 0x3f).toInt64)))])) _
          refine XS.lcmp X189.here hx rfl (hb hby at_137) rfl ?_
          show Steps p.tables e below (T189.setTop (mkF m 138 #[.val (.long q1), .second, .val (.long q2), .second, .val (.long q3), .second, .val (.int p4), .val (.int p5), .val (.int p6), .val (.int (3 : Int32)), .val (.ref b176), .val (.ref b185), .val (.int vv), .val (.int kk), .val (.int bb), .unset, .val (.long ww), .second] [(.int (lcmpW (ww &&& ((1 : Int64) <<< (bb &&& 0x3f).toInt64)) (0 : Int64)))])) _
          exact k
        refine EndsQ.go (b := T189.setTop (mkF m 146 #[.val (.long q1), .second, .val (.long q2), .second, .val (.long q3), .second, .val (.int p4), .val (.int p5), .val (.int p6), .val (.int (3 : Int32)), .val (.ref b176), .val (.ref b185), .val (.int vv), .val (.int kk), .val (.int bb), .unset, .val (.long ww), .second] [(.int (if (ww &&& ((1 : Int64) <<< (bb &&& 0x3f).toInt64)) = (0 : Int64) then (0 : Int32) else (1 : Int32)))])) (fun t k => ?_) ?_
        · by_cases hc138_209 : (ww &&& ((1 : Int64) <<< (bb &&& 0x3f).toInt64)) = (0 : Int64)
          · refine XS.ifYes X189.here hx rfl (pc0 := 138) (pc' := 145) rfl (hb hby at_138) rfl ((if0 _ _).trans (teq ((lw_eq (ww &&& ((1 : Int64) <<< (bb &&& 0x3f).toInt64)) (0 : Int64)).mpr hc138_209)).1) (by decide) (by decide) ?_
            show Steps p.tables e below (T189.setTop (mkF m 145 #[.val (.long q1), .second, .val (.long q2), .second, .val (.long q3), .second, .val (.int p4), .val (.int p5), .val (.int p6), .val (.int (3 : Int32)), .val (.ref b176), .val (.ref b185), .val (.int vv), .val (.int kk), .val (.int bb), .unset, .val (.long ww), .second] [])) _
            refine XS.iconst X189.here hx rfl (hb hby at_145) ?_
            show Steps p.tables e below (T189.setTop (mkF m 146 #[.val (.long q1), .second, .val (.long q2), .second, .val (.long q3), .second, .val (.int p4), .val (.int p5), .val (.int p6), .val (.int (3 : Int32)), .val (.ref b176), .val (.ref b185), .val (.int vv), .val (.int kk), .val (.int bb), .unset, .val (.long ww), .second] [(.int (0 : Int32))])) _
            have j0 : (if (ww &&& ((1 : Int64) <<< (bb &&& 0x3f).toInt64)) = (0 : Int64) then (0 : Int32) else (1 : Int32)) = (0 : Int32) := by rw [if_pos hc138_209]
            rw [j0] at k
            exact k
          · refine XS.ifNo X189.here hx rfl (hb hby at_138) rfl ((if0 _ _).trans (feq (fun q => hc138_209 ((lw_eq (ww &&& ((1 : Int64) <<< (bb &&& 0x3f).toInt64)) (0 : Int64)).mp q))).1) ?_
            show Steps p.tables e below (T189.setTop (mkF m 141 #[.val (.long q1), .second, .val (.long q2), .second, .val (.long q3), .second, .val (.int p4), .val (.int p5), .val (.int p6), .val (.int (3 : Int32)), .val (.ref b176), .val (.ref b185), .val (.int vv), .val (.int kk), .val (.int bb), .unset, .val (.long ww), .second] [])) _
            refine XS.iconst X189.here hx rfl (hb hby at_141) ?_
            show Steps p.tables e below (T189.setTop (mkF m 142 #[.val (.long q1), .second, .val (.long q2), .second, .val (.long q3), .second, .val (.int p4), .val (.int p5), .val (.int p6), .val (.int (3 : Int32)), .val (.ref b176), .val (.ref b185), .val (.int vv), .val (.int kk), .val (.int bb), .unset, .val (.long ww), .second] [(.int (1 : Int32))])) _
            refine XS.goto X189.here hx rfl (pc0 := 142) (pc' := 146) rfl (hb hby at_142) (by decide) (by decide) ?_
            show Steps p.tables e below (T189.setTop (mkF m 146 #[.val (.long q1), .second, .val (.long q2), .second, .val (.long q3), .second, .val (.int p4), .val (.int p5), .val (.int p6), .val (.int (3 : Int32)), .val (.ref b176), .val (.ref b185), .val (.int vv), .val (.int kk), .val (.int bb), .unset, .val (.long ww), .second] [(.int (1 : Int32))])) _
            have j0 : (if (ww &&& ((1 : Int64) <<< (bb &&& 0x3f).toInt64)) = (0 : Int64) then (0 : Int32) else (1 : Int32)) = (1 : Int32) := by rw [if_neg hc138_209]
            rw [j0] at k
            exact k
        generalize hv_ee : (if (ww &&& ((1 : Int64) <<< (bb &&& 0x3f).toInt64)) = (0 : Int64) then (0 : Int32) else (1 : Int32)) = ee
        show EndsQ _ _ _ _ _ _ _ (T189.setTop (mkF m 146 #[.val (.long q1), .second, .val (.long q2), .second, .val (.long q3), .second, .val (.int p4), .val (.int p5), .val (.int p6), .val (.int (3 : Int32)), .val (.ref b176), .val (.ref b185), .val (.int vv), .val (.int kk), .val (.int bb), .unset, .val (.long ww), .second] [(.int ee)]))
        refine EndsQ.go (b := T189.setTop (mkF m 152 #[.val (.long q1), .second, .val (.long q2), .second, .val (.long q3), .second, .val (.int p4), .val (.int p5), .val (.int p6), .val (.int (3 : Int32)), .val (.ref b176), .val (.ref b185), .val (.int vv), .val (.int kk), .val (.int bb), .val (.int ee), .val (.long ww), .second] [(.int vv), (.ref b185)])) (fun t k => ?_) ?_
        · show Steps p.tables e below (T189.setTop (mkF m 146 #[.val (.long q1), .second, .val (.long q2), .second, .val (.long q3), .second, .val (.int p4), .val (.int p5), .val (.int p6), .val (.int (3 : Int32)), .val (.ref b176), .val (.ref b185), .val (.int vv), .val (.int kk), .val (.int bb), .unset, .val (.long ww), .second] [(.int ee)])) _
          refine XS.istore X189.here hx rfl (hb hby at_146) rfl (l' := #[.val (.long q1), .second, .val (.long q2), .second, .val (.long q3), .second, .val (.int p4), .val (.int p5), .val (.int p6), .val (.int (3 : Int32)), .val (.ref b176), .val (.ref b185), .val (.int vv), .val (.int kk), .val (.int bb), .val (.int ee), .val (.long ww), .second]) rfl ?_
          show Steps p.tables e below (T189.setTop (mkF m 148 #[.val (.long q1), .second, .val (.long q2), .second, .val (.long q3), .second, .val (.int p4), .val (.int p5), .val (.int p6), .val (.int (3 : Int32)), .val (.ref b176), .val (.ref b185), .val (.int vv), .val (.int kk), .val (.int bb), .val (.int ee), .val (.long ww), .second] [])) _
          refine XS.aload X189.here hx rfl (hb hby at_148) rfl rfl ?_
          show Steps p.tables e below (T189.setTop (mkF m 150 #[.val (.long q1), .second, .val (.long q2), .second, .val (.long q3), .second, .val (.int p4), .val (.int p5), .val (.int p6), .val (.int (3 : Int32)), .val (.ref b176), .val (.ref b185), .val (.int vv), .val (.int kk), .val (.int bb), .val (.int ee), .val (.long ww), .second] [(.ref b185)])) _
          refine XS.iload X189.here hx rfl (hb hby at_150) rfl ?_
          show Steps p.tables e below (T189.setTop (mkF m 152 #[.val (.long q1), .second, .val (.long q2), .second, .val (.long q3), .second, .val (.int p4), .val (.int p5), .val (.int p6), .val (.int (3 : Int32)), .val (.ref b176), .val (.ref b185), .val (.int vv), .val (.int kk), .val (.int bb), .val (.int ee), .val (.long ww), .second] [(.int vv), (.ref b185)])) _
          exact k
        have hsel : own_w vv < (1 : Int32) → (¬ own_w vv < 0 ∧ own_w vv < (1 : Int32)) ∧ ([(.long q1)] : List Value).getD (own_w vv).toNatClampNeg (.long (0 : Int64)) = .long ww := by
          intro hlt
          rw [hkw.1] at hlt ⊢
          rw [← hv_ww]
          rcases own_c3 kk hkw.2 with q | q | q | q
          · rw [q] at hlt ⊢; exact ⟨by decide, rfl⟩
          · rw [q] at hlt ⊢; exact absurd hlt (by decide)
          · rw [q] at hlt ⊢; exact absurd hlt (by decide)
          · exact absurd hlt (own_gt2 kk (1 : Int32) q (by decide))
        have hz0 : ¬ kk < (1 : Int32) → ww = 0 := by
          intro hlt
          rw [← hv_ww]
          rcases own_c3 kk hkw.2 with q | q | q | q
          · rw [q] at hlt hc97_206 ⊢; exact absurd (by decide) hlt
          · rw [q] at hlt hc97_206 ⊢; exact hz1
          · rw [q] at hlt hc97_206 ⊢; exact hz2
          · exact absurd hc97_206 (own_gt2 kk (3 : Int32) q (by decide))
        obtain ⟨cq210, kq210, qa210, qb210, qc210⟩ := isOf hZ rfl Ex189
        obtain ⟨_, _, ⟨T210, L210, kk210, nn210⟩, -, X210, ⟨Lc210, hQ210, l210, y210, z210⟩, st210⟩ := X189.virtualBack hx (y := (⟨"com/example/sextant/sextant/ValueSet", "contains", "(I)Z"⟩ : MethodName)) (z := (⟨"com/example/sextant/sextant/ValueSet", "contains", "(I)Z"⟩ : MethodName)) hown (mvT hZ (hw _ (List.mem_of_getElem? (i := 13) rfl))) (mvT hZ (hw _ (List.mem_of_getElem? (i := 14) rfl))) (notFace_of_selects (args := #[]) (mvT hZ (hw _ (List.mem_of_getElem? (i := 16) rfl)))) (mvT hZ (hw _ (List.mem_of_getElem? (i := 16) rfl))) (mvT hZ (hw _ (List.mem_of_getElem? (i := 15) rfl))) (by decide) (backOf (W := 0) (rm3 l Z a0 hw [] b185 vv c189 kc189 (1 : Int32) [(.long q1)] ww T189.heap n0 f190 Fx189 Vx189 hsel) hZ (hw _ (List.mem_of_getElem? (i := 17) rfl)) (hw _ (List.mem_of_getElem? (i := 3) rfl)) (by decide) (by decide)) qa210 qc210 (g := (mkF m 152 #[.val (.long q1), .second, .val (.long q2), .second, .val (.long q3), .second, .val (.int p4), .val (.int p5), .val (.int p6), .val (.int (3 : Int32)), .val (.ref b176), .val (.ref b185), .val (.int vv), .val (.int kk), .val (.int bb), .val (.int ee), .val (.long ww), .second] [(.int vv), (.ref b185)])) rfl (by rw [hml]; rfl) (Steps.refl _) (argsL := [(.int vv)]) (rest := []) (lenOf pd_3 rfl) rfl (by show 2 * 0 + _ ≤ _; exact Nat.le_of_eq rfl) (hb hby at_152) (fun _ _ => ⟨rfl, rfl, (by decide : 3 + 0 ≤ _), (by decide : 6 + 0 ≤ _)⟩)
        dsimp only [Pt.U, Pt.locs, Pt.cells, Pt.slots] at X210 l210 y210 z210 st210 hQ210
        subst l210 y210 z210
        obtain ⟨rfl, Nq210, eq210⟩ := hQ210
        have N210 := Fr.app N189 Nq210
        refine EndsQ.go (fun t k => st210.trans k) ?_
        show EndsQ _ _ _ _ _ _ _ (T210.setTop (mkF m 155 #[.val (.long q1), .second, .val (.long q2), .second, .val (.long q3), .second, .val (.int p4), .val (.int p5), .val (.int p6), .val (.int (3 : Int32)), .val (.ref b176), .val (.ref b185), .val (.int vv), .val (.int kk), .val (.int bb), .val (.int ee), .val (.long ww), .second] [(.int (own_has vv (1 : Int32) ww))]))
        refine EndsQ.go (b := T210.setTop (mkF m 165 #[.val (.long q1), .second, .val (.long q2), .second, .val (.long q3), .second, .val (.int p4), .val (.int p5), .val (.int p6), .val (.int (3 : Int32)), .val (.ref b176), .val (.ref b185), .val (.int vv), .val (.int kk), .val (.int bb), .val (.int ee), .val (.long ww), .second] [(.int (1 : Int32))])) (fun t k => ?_) ?_
        · show Steps p.tables e below (T210.setTop (mkF m 155 #[.val (.long q1), .second, .val (.long q2), .second, .val (.long q3), .second, .val (.int p4), .val (.int p5), .val (.int p6), .val (.int (3 : Int32)), .val (.ref b176), .val (.ref b185), .val (.int vv), .val (.int kk), .val (.int bb), .val (.int ee), .val (.long ww), .second] [(.int (own_has vv (1 : Int32) ww))])) _
          refine XS.iload X210.here hx rfl (hb hby at_155) rfl ?_
          show Steps p.tables e below (T210.setTop (mkF m 157 #[.val (.long q1), .second, .val (.long q2), .second, .val (.long q3), .second, .val (.int p4), .val (.int p5), .val (.int p6), .val (.int (3 : Int32)), .val (.ref b176), .val (.ref b185), .val (.int vv), .val (.int kk), .val (.int bb), .val (.int ee), .val (.long ww), .second] [(.int ee), (.int (own_has vv (1 : Int32) ww))])) _
          refine XS.icmpNo X210.here hx rfl (hb hby at_157) rfl (teq ((own_hasB vv (1 : Int32) kk bb ww hb_v hkw.1 hv_bb hz0).trans hv_ee)).2 ?_
          show Steps p.tables e below (T210.setTop (mkF m 160 #[.val (.long q1), .second, .val (.long q2), .second, .val (.long q3), .second, .val (.int p4), .val (.int p5), .val (.int p6), .val (.int (3 : Int32)), .val (.ref b176), .val (.ref b185), .val (.int vv), .val (.int kk), .val (.int bb), .val (.int ee), .val (.long ww), .second] [])) _
          refine XS.iconst X210.here hx rfl (hb hby at_160) ?_
          show Steps p.tables e below (T210.setTop (mkF m 161 #[.val (.long q1), .second, .val (.long q2), .second, .val (.long q3), .second, .val (.int p4), .val (.int p5), .val (.int p6), .val (.int (3 : Int32)), .val (.ref b176), .val (.ref b185), .val (.int vv), .val (.int kk), .val (.int bb), .val (.int ee), .val (.long ww), .second] [(.int (1 : Int32))])) _
          refine XS.goto X210.here hx rfl (pc0 := 161) (pc' := 165) rfl (hb hby at_161) (by decide) (by decide) ?_
          show Steps p.tables e below (T210.setTop (mkF m 165 #[.val (.long q1), .second, .val (.long q2), .second, .val (.long q3), .second, .val (.int p4), .val (.int p5), .val (.int p6), .val (.int (3 : Int32)), .val (.ref b176), .val (.ref b185), .val (.int vv), .val (.int kk), .val (.int bb), .val (.int ee), .val (.long ww), .second] [(.int (1 : Int32))])) _
          exact k
        refine EndsQ.retN X210 hx Bd.notSynchronized (t := .boolean) Bd.returns (by simp) (hb hby at_165) (by decide) (by decide) ?_
        show Q0 Z q1 q2 q3 p4 p5 p6 h0 n0 (some (.int (nar .boolean (1 : Int32)))) T210.heap _
        rw [eq210]
        exact ⟨rfl, N210⟩
      · refine EndsQ.go (b := T189.setTop (mkF m 100 #[.val (.long q1), .second, .val (.long q2), .second, .val (.long q3), .second, .val (.int p4), .val (.int p5), .val (.int p6), .val (.int (3 : Int32)), .val (.ref b176), .val (.ref b185), .val (.int vv), .val (.int kk), .val (.int bb), .unset, .unset, .unset] [])) (fun t k => ?_) ?_
        · show Steps p.tables e below (T189.setTop (mkF m 97 #[.val (.long q1), .second, .val (.long q2), .second, .val (.long q3), .second, .val (.int p4), .val (.int p5), .val (.int p6), .val (.int (3 : Int32)), .val (.ref b176), .val (.ref b185), .val (.int vv), .val (.int kk), .val (.int bb), .unset, .unset, .unset] [(.int (3 : Int32)), (.int kk)])) _
          refine XS.icmpNo X189.here hx rfl (hb hby at_97) rfl (flt hc97_206).1 ?_
          show Steps p.tables e below (T189.setTop (mkF m 100 #[.val (.long q1), .second, .val (.long q2), .second, .val (.long q3), .second, .val (.int p4), .val (.int p5), .val (.int p6), .val (.int (3 : Int32)), .val (.ref b176), .val (.ref b185), .val (.int vv), .val (.int kk), .val (.int bb), .unset, .unset, .unset] [])) _
          exact k
        refine EndsQ.go (b := T189.setTop (mkF m 152 #[.val (.long q1), .second, .val (.long q2), .second, .val (.long q3), .second, .val (.int p4), .val (.int p5), .val (.int p6), .val (.int (3 : Int32)), .val (.ref b176), .val (.ref b185), .val (.int vv), .val (.int kk), .val (.int bb), .val (.int (0 : Int32)), .unset, .unset] [(.int vv), (.ref b185)])) (fun t k => ?_) ?_
        · show Steps p.tables e below (T189.setTop (mkF m 100 #[.val (.long q1), .second, .val (.long q2), .second, .val (.long q3), .second, .val (.int p4), .val (.int p5), .val (.int p6), .val (.int (3 : Int32)), .val (.ref b176), .val (.ref b185), .val (.int vv), .val (.int kk), .val (.int bb), .unset, .unset, .unset] [])) _
          refine XS.iconst X189.here hx rfl (hb hby at_100) ?_
          show Steps p.tables e below (T189.setTop (mkF m 101 #[.val (.long q1), .second, .val (.long q2), .second, .val (.long q3), .second, .val (.int p4), .val (.int p5), .val (.int p6), .val (.int (3 : Int32)), .val (.ref b176), .val (.ref b185), .val (.int vv), .val (.int kk), .val (.int bb), .unset, .unset, .unset] [(.int (0 : Int32))])) _
          refine XS.istore X189.here hx rfl (hb hby at_101) rfl (l' := #[.val (.long q1), .second, .val (.long q2), .second, .val (.long q3), .second, .val (.int p4), .val (.int p5), .val (.int p6), .val (.int (3 : Int32)), .val (.ref b176), .val (.ref b185), .val (.int vv), .val (.int kk), .val (.int bb), .val (.int (0 : Int32)), .unset, .unset]) rfl ?_
          show Steps p.tables e below (T189.setTop (mkF m 103 #[.val (.long q1), .second, .val (.long q2), .second, .val (.long q3), .second, .val (.int p4), .val (.int p5), .val (.int p6), .val (.int (3 : Int32)), .val (.ref b176), .val (.ref b185), .val (.int vv), .val (.int kk), .val (.int bb), .val (.int (0 : Int32)), .unset, .unset] [])) _
          refine XS.goto X189.here hx rfl (pc0 := 103) (pc' := 148) rfl (hb hby at_103) (by decide) (by decide) ?_
          show Steps p.tables e below (T189.setTop (mkF m 148 #[.val (.long q1), .second, .val (.long q2), .second, .val (.long q3), .second, .val (.int p4), .val (.int p5), .val (.int p6), .val (.int (3 : Int32)), .val (.ref b176), .val (.ref b185), .val (.int vv), .val (.int kk), .val (.int bb), .val (.int (0 : Int32)), .unset, .unset] [])) _
          refine XS.aload X189.here hx rfl (hb hby at_148) rfl rfl ?_
          show Steps p.tables e below (T189.setTop (mkF m 150 #[.val (.long q1), .second, .val (.long q2), .second, .val (.long q3), .second, .val (.int p4), .val (.int p5), .val (.int p6), .val (.int (3 : Int32)), .val (.ref b176), .val (.ref b185), .val (.int vv), .val (.int kk), .val (.int bb), .val (.int (0 : Int32)), .unset, .unset] [(.ref b185)])) _
          refine XS.iload X189.here hx rfl (hb hby at_150) rfl ?_
          show Steps p.tables e below (T189.setTop (mkF m 152 #[.val (.long q1), .second, .val (.long q2), .second, .val (.long q3), .second, .val (.int p4), .val (.int p5), .val (.int p6), .val (.int (3 : Int32)), .val (.ref b176), .val (.ref b185), .val (.int vv), .val (.int kk), .val (.int bb), .val (.int (0 : Int32)), .unset, .unset] [(.int vv), (.ref b185)])) _
          exact k
        obtain ⟨cq211, kq211, qa211, qb211, qc211⟩ := isOf hZ rfl Ex189
        obtain ⟨_, _, ⟨T211, L211, kk211, nn211⟩, -, X211, ⟨Lc211, hQ211, l211, y211, z211⟩, st211⟩ := X189.virtualBack hx (y := (⟨"com/example/sextant/sextant/ValueSet", "contains", "(I)Z"⟩ : MethodName)) (z := (⟨"com/example/sextant/sextant/ValueSet", "contains", "(I)Z"⟩ : MethodName)) hown (mvT hZ (hw _ (List.mem_of_getElem? (i := 13) rfl))) (mvT hZ (hw _ (List.mem_of_getElem? (i := 14) rfl))) (notFace_of_selects (args := #[]) (mvT hZ (hw _ (List.mem_of_getElem? (i := 16) rfl)))) (mvT hZ (hw _ (List.mem_of_getElem? (i := 16) rfl))) (mvT hZ (hw _ (List.mem_of_getElem? (i := 15) rfl))) (by decide) (backOf (W := 0) (rm3 l Z a0 hw [] b185 vv c189 kc189 (1 : Int32) [(.long q1)] (0 : Int64) T189.heap n0 f190 Fx189 Vx189 (fun hlt => absurd hlt (by rw [hkw.1]; exact own_mono kk (3 : Int32) (1 : Int32) hc97_206 (by decide)))) hZ (hw _ (List.mem_of_getElem? (i := 17) rfl)) (hw _ (List.mem_of_getElem? (i := 3) rfl)) (by decide) (by decide)) qa211 qc211 (g := (mkF m 152 #[.val (.long q1), .second, .val (.long q2), .second, .val (.long q3), .second, .val (.int p4), .val (.int p5), .val (.int p6), .val (.int (3 : Int32)), .val (.ref b176), .val (.ref b185), .val (.int vv), .val (.int kk), .val (.int bb), .val (.int (0 : Int32)), .unset, .unset] [(.int vv), (.ref b185)])) rfl (by rw [hml]; rfl) (Steps.refl _) (argsL := [(.int vv)]) (rest := []) (lenOf pd_3 rfl) rfl (by show 2 * 0 + _ ≤ _; exact Nat.le_of_eq rfl) (hb hby at_152) (fun _ _ => ⟨rfl, rfl, (by decide : 3 + 0 ≤ _), (by decide : 6 + 0 ≤ _)⟩)
        dsimp only [Pt.U, Pt.locs, Pt.cells, Pt.slots] at X211 l211 y211 z211 st211 hQ211
        subst l211 y211 z211
        obtain ⟨rfl, Nq211, eq211⟩ := hQ211
        have N211 := Fr.app N189 Nq211
        refine EndsQ.go (fun t k => st211.trans k) ?_
        show EndsQ _ _ _ _ _ _ _ (T211.setTop (mkF m 155 #[.val (.long q1), .second, .val (.long q2), .second, .val (.long q3), .second, .val (.int p4), .val (.int p5), .val (.int p6), .val (.int (3 : Int32)), .val (.ref b176), .val (.ref b185), .val (.int vv), .val (.int kk), .val (.int bb), .val (.int (0 : Int32)), .unset, .unset] [(.int (own_has vv (1 : Int32) (0 : Int64)))]))
        refine EndsQ.go (b := T211.setTop (mkF m 165 #[.val (.long q1), .second, .val (.long q2), .second, .val (.long q3), .second, .val (.int p4), .val (.int p5), .val (.int p6), .val (.int (3 : Int32)), .val (.ref b176), .val (.ref b185), .val (.int vv), .val (.int kk), .val (.int bb), .val (.int (0 : Int32)), .unset, .unset] [(.int (1 : Int32))])) (fun t k => ?_) ?_
        · show Steps p.tables e below (T211.setTop (mkF m 155 #[.val (.long q1), .second, .val (.long q2), .second, .val (.long q3), .second, .val (.int p4), .val (.int p5), .val (.int p6), .val (.int (3 : Int32)), .val (.ref b176), .val (.ref b185), .val (.int vv), .val (.int kk), .val (.int bb), .val (.int (0 : Int32)), .unset, .unset] [(.int (own_has vv (1 : Int32) (0 : Int64)))])) _
          refine XS.iload X211.here hx rfl (hb hby at_155) rfl ?_
          show Steps p.tables e below (T211.setTop (mkF m 157 #[.val (.long q1), .second, .val (.long q2), .second, .val (.long q3), .second, .val (.int p4), .val (.int p5), .val (.int p6), .val (.int (3 : Int32)), .val (.ref b176), .val (.ref b185), .val (.int vv), .val (.int kk), .val (.int bb), .val (.int (0 : Int32)), .unset, .unset] [(.int (0 : Int32)), (.int (own_has vv (1 : Int32) (0 : Int64)))])) _
          refine XS.icmpNo X211.here hx rfl (hb hby at_157) rfl (teq (own_hasA vv (1 : Int32) kk (0 : Int64) hkw.1 (own_mono kk (3 : Int32) (1 : Int32) hc97_206 (by decide)))).2 ?_
          show Steps p.tables e below (T211.setTop (mkF m 160 #[.val (.long q1), .second, .val (.long q2), .second, .val (.long q3), .second, .val (.int p4), .val (.int p5), .val (.int p6), .val (.int (3 : Int32)), .val (.ref b176), .val (.ref b185), .val (.int vv), .val (.int kk), .val (.int bb), .val (.int (0 : Int32)), .unset, .unset] [])) _
          refine XS.iconst X211.here hx rfl (hb hby at_160) ?_
          show Steps p.tables e below (T211.setTop (mkF m 161 #[.val (.long q1), .second, .val (.long q2), .second, .val (.long q3), .second, .val (.int p4), .val (.int p5), .val (.int p6), .val (.int (3 : Int32)), .val (.ref b176), .val (.ref b185), .val (.int vv), .val (.int kk), .val (.int bb), .val (.int (0 : Int32)), .unset, .unset] [(.int (1 : Int32))])) _
          refine XS.goto X211.here hx rfl (pc0 := 161) (pc' := 165) rfl (hb hby at_161) (by decide) (by decide) ?_
          show Steps p.tables e below (T211.setTop (mkF m 165 #[.val (.long q1), .second, .val (.long q2), .second, .val (.long q3), .second, .val (.int p4), .val (.int p5), .val (.int p6), .val (.int (3 : Int32)), .val (.ref b176), .val (.ref b185), .val (.int vv), .val (.int kk), .val (.int bb), .val (.int (0 : Int32)), .unset, .unset] [(.int (1 : Int32))])) _
          exact k
        refine EndsQ.retN X211 hx Bd.notSynchronized (t := .boolean) Bd.returns (by simp) (hb hby at_165) (by decide) (by decide) ?_
        show Q0 Z q1 q2 q3 p4 p5 p6 h0 n0 (some (.int (nar .boolean (1 : Int32)))) T211.heap _
        rw [eq211]
        exact ⟨rfl, N211⟩
    · have ht0 := trivial
      refine EndsQ.go (b := T189.setTop (mkF m 60 #[.val (.long q1), .second, .val (.long q2), .second, .val (.long q3), .second, .val (.int p4), .val (.int p5), .val (.int p6), .val (.int (3 : Int32)), .val (.ref b176), .val (.ref b185), .unset, .unset, .unset, .unset, .unset, .unset] [(.int (p6 &&& (1 : Int32)))])) (fun t k => ?_) ?_
      · show Steps p.tables e below (T189.setTop (mkF m 54 #[.val (.long q1), .second, .val (.long q2), .second, .val (.long q3), .second, .val (.int p4), .val (.int p5), .val (.int p6), .val (.int (3 : Int32)), .val (.ref b176), .unset, .unset, .unset, .unset, .unset, .unset, .unset] [(.ref b185)])) _
        refine XS.astore X189.here hx rfl (hb hby at_54) rfl rfl (l' := #[.val (.long q1), .second, .val (.long q2), .second, .val (.long q3), .second, .val (.int p4), .val (.int p5), .val (.int p6), .val (.int (3 : Int32)), .val (.ref b176), .val (.ref b185), .unset, .unset, .unset, .unset, .unset, .unset]) rfl ?_
        show Steps p.tables e below (T189.setTop (mkF m 56 #[.val (.long q1), .second, .val (.long q2), .second, .val (.long q3), .second, .val (.int p4), .val (.int p5), .val (.int p6), .val (.int (3 : Int32)), .val (.ref b176), .val (.ref b185), .unset, .unset, .unset, .unset, .unset, .unset] [])) _
        refine XS.iload X189.here hx rfl (hb hby at_56) rfl ?_
        show Steps p.tables e below (T189.setTop (mkF m 58 #[.val (.long q1), .second, .val (.long q2), .second, .val (.long q3), .second, .val (.int p4), .val (.int p5), .val (.int p6), .val (.int (3 : Int32)), .val (.ref b176), .val (.ref b185), .unset, .unset, .unset, .unset, .unset, .unset] [(.int p6)])) _
        refine XS.iconst X189.here hx rfl (hb hby at_58) ?_
        show Steps p.tables e below (T189.setTop (mkF m 59 #[.val (.long q1), .second, .val (.long q2), .second, .val (.long q3), .second, .val (.int p4), .val (.int p5), .val (.int p6), .val (.int (3 : Int32)), .val (.ref b176), .val (.ref b185), .unset, .unset, .unset, .unset, .unset, .unset] [(.int (1 : Int32)), (.int p6)])) _
        refine XS.iand X189.here hx rfl (hb hby at_59) rfl ?_
        show Steps p.tables e below (T189.setTop (mkF m 60 #[.val (.long q1), .second, .val (.long q2), .second, .val (.long q3), .second, .val (.int p4), .val (.int p5), .val (.int p6), .val (.int (3 : Int32)), .val (.ref b176), .val (.ref b185), .unset, .unset, .unset, .unset, .unset, .unset] [(.int (p6 &&& (1 : Int32)))])) _
        exact k
      refine EndsQ.go (b := T189.setTop (mkF m 77 #[.val (.long q1), .second, .val (.long q2), .second, .val (.long q3), .second, .val (.int p4), .val (.int p5), .val (.int p6), .val (.int (3 : Int32)), .val (.ref b176), .val (.ref b185), .unset, .unset, .unset, .unset, .unset, .unset] [(.int (if (p6 &&& (1 : Int32)) = (0 : Int32) then (p5 &&& (255 : Int32)) else (p5 &&& (2147483647 : Int32))))])) (fun t k => ?_) ?_
      · by_cases hc60_212 : (p6 &&& (1 : Int32)) = (0 : Int32)
        · refine XS.ifYes X189.here hx rfl (pc0 := 60) (pc' := 71) rfl (hb hby at_60) rfl ((if0 _ _).trans (teq hc60_212).1) (by decide) (by decide) ?_
          show Steps p.tables e below (T189.setTop (mkF m 71 #[.val (.long q1), .second, .val (.long q2), .second, .val (.long q3), .second, .val (.int p4), .val (.int p5), .val (.int p6), .val (.int (3 : Int32)), .val (.ref b176), .val (.ref b185), .unset, .unset, .unset, .unset, .unset, .unset] [])) _
          refine XS.iload X189.here hx rfl (hb hby at_71) rfl ?_
          show Steps p.tables e below (T189.setTop (mkF m 73 #[.val (.long q1), .second, .val (.long q2), .second, .val (.long q3), .second, .val (.int p4), .val (.int p5), .val (.int p6), .val (.int (3 : Int32)), .val (.ref b176), .val (.ref b185), .unset, .unset, .unset, .unset, .unset, .unset] [(.int p5)])) _
          refine XS.sipush X189.here hx rfl (hb hby at_73) ?_
          show Steps p.tables e below (T189.setTop (mkF m 76 #[.val (.long q1), .second, .val (.long q2), .second, .val (.long q3), .second, .val (.int p4), .val (.int p5), .val (.int p6), .val (.int (3 : Int32)), .val (.ref b176), .val (.ref b185), .unset, .unset, .unset, .unset, .unset, .unset] [(.int (255 : Int32)), (.int p5)])) _
          refine XS.iand X189.here hx rfl (hb hby at_76) rfl ?_
          show Steps p.tables e below (T189.setTop (mkF m 77 #[.val (.long q1), .second, .val (.long q2), .second, .val (.long q3), .second, .val (.int p4), .val (.int p5), .val (.int p6), .val (.int (3 : Int32)), .val (.ref b176), .val (.ref b185), .unset, .unset, .unset, .unset, .unset, .unset] [(.int (p5 &&& (255 : Int32)))])) _
          have j0 : (if (p6 &&& (1 : Int32)) = (0 : Int32) then (p5 &&& (255 : Int32)) else (p5 &&& (2147483647 : Int32))) = (p5 &&& (255 : Int32)) := by rw [if_pos hc60_212]
          rw [j0] at k
          exact k
        · refine XS.ifNo X189.here hx rfl (hb hby at_60) rfl ((if0 _ _).trans (feq hc60_212).1) ?_
          show Steps p.tables e below (T189.setTop (mkF m 63 #[.val (.long q1), .second, .val (.long q2), .second, .val (.long q3), .second, .val (.int p4), .val (.int p5), .val (.int p6), .val (.int (3 : Int32)), .val (.ref b176), .val (.ref b185), .unset, .unset, .unset, .unset, .unset, .unset] [])) _
          refine XS.iload X189.here hx rfl (hb hby at_63) rfl ?_
          show Steps p.tables e below (T189.setTop (mkF m 65 #[.val (.long q1), .second, .val (.long q2), .second, .val (.long q3), .second, .val (.int p4), .val (.int p5), .val (.int p6), .val (.int (3 : Int32)), .val (.ref b176), .val (.ref b185), .unset, .unset, .unset, .unset, .unset, .unset] [(.int p5)])) _
          refine X189.ldcInt hx hown (mvT hZ (hw _ (List.mem_of_getElem? (i := 12) rfl))) (g := (mkF m 65 #[.val (.long q1), .second, .val (.long q2), .second, .val (.long q3), .second, .val (.int p4), .val (.int p5), .val (.int p6), .val (.int (3 : Int32)), .val (.ref b176), .val (.ref b185), .unset, .unset, .unset, .unset, .unset, .unset] [(.int p5)])) rfl (hb hby at_65) _ ?_
          show Steps p.tables e below (T189.setTop (mkF m 67 #[.val (.long q1), .second, .val (.long q2), .second, .val (.long q3), .second, .val (.int p4), .val (.int p5), .val (.int p6), .val (.int (3 : Int32)), .val (.ref b176), .val (.ref b185), .unset, .unset, .unset, .unset, .unset, .unset] [(.int (2147483647 : Int32)), (.int p5)])) _
          refine XS.iand X189.here hx rfl (hb hby at_67) rfl ?_
          show Steps p.tables e below (T189.setTop (mkF m 68 #[.val (.long q1), .second, .val (.long q2), .second, .val (.long q3), .second, .val (.int p4), .val (.int p5), .val (.int p6), .val (.int (3 : Int32)), .val (.ref b176), .val (.ref b185), .unset, .unset, .unset, .unset, .unset, .unset] [(.int (p5 &&& (2147483647 : Int32)))])) _
          refine XS.goto X189.here hx rfl (pc0 := 68) (pc' := 77) rfl (hb hby at_68) (by decide) (by decide) ?_
          show Steps p.tables e below (T189.setTop (mkF m 77 #[.val (.long q1), .second, .val (.long q2), .second, .val (.long q3), .second, .val (.int p4), .val (.int p5), .val (.int p6), .val (.int (3 : Int32)), .val (.ref b176), .val (.ref b185), .unset, .unset, .unset, .unset, .unset, .unset] [(.int (p5 &&& (2147483647 : Int32)))])) _
          have j0 : (if (p6 &&& (1 : Int32)) = (0 : Int32) then (p5 &&& (255 : Int32)) else (p5 &&& (2147483647 : Int32))) = (p5 &&& (2147483647 : Int32)) := by rw [if_neg hc60_212]
          rw [j0] at k
          exact k
      generalize hv_vv : (if (p6 &&& (1 : Int32)) = (0 : Int32) then (p5 &&& (255 : Int32)) else (p5 &&& (2147483647 : Int32))) = vv
      have hb_v : 0 ≤ vv.toInt := by rw [← hv_vv]; exact own_v p5 p6
      have hkw := own_kw vv hb_v
      show EndsQ _ _ _ _ _ _ _ (T189.setTop (mkF m 77 #[.val (.long q1), .second, .val (.long q2), .second, .val (.long q3), .second, .val (.int p4), .val (.int p5), .val (.int p6), .val (.int (3 : Int32)), .val (.ref b176), .val (.ref b185), .unset, .unset, .unset, .unset, .unset, .unset] [(.int vv)]))
      refine EndsQ.go (b := T189.setTop (mkF m 86 #[.val (.long q1), .second, .val (.long q2), .second, .val (.long q3), .second, .val (.int p4), .val (.int p5), .val (.int p6), .val (.int (3 : Int32)), .val (.ref b176), .val (.ref b185), .val (.int vv), .val (.int (vv / (64 : Int32))), .unset, .unset, .unset, .unset] [])) (fun t k => ?_) ?_
      · show Steps p.tables e below (T189.setTop (mkF m 77 #[.val (.long q1), .second, .val (.long q2), .second, .val (.long q3), .second, .val (.int p4), .val (.int p5), .val (.int p6), .val (.int (3 : Int32)), .val (.ref b176), .val (.ref b185), .unset, .unset, .unset, .unset, .unset, .unset] [(.int vv)])) _
        refine XS.istore X189.here hx rfl (hb hby at_77) rfl (l' := #[.val (.long q1), .second, .val (.long q2), .second, .val (.long q3), .second, .val (.int p4), .val (.int p5), .val (.int p6), .val (.int (3 : Int32)), .val (.ref b176), .val (.ref b185), .val (.int vv), .unset, .unset, .unset, .unset, .unset]) rfl ?_
        show Steps p.tables e below (T189.setTop (mkF m 79 #[.val (.long q1), .second, .val (.long q2), .second, .val (.long q3), .second, .val (.int p4), .val (.int p5), .val (.int p6), .val (.int (3 : Int32)), .val (.ref b176), .val (.ref b185), .val (.int vv), .unset, .unset, .unset, .unset, .unset] [])) _
        refine XS.iload X189.here hx rfl (hb hby at_79) rfl ?_
        show Steps p.tables e below (T189.setTop (mkF m 81 #[.val (.long q1), .second, .val (.long q2), .second, .val (.long q3), .second, .val (.int p4), .val (.int p5), .val (.int p6), .val (.int (3 : Int32)), .val (.ref b176), .val (.ref b185), .val (.int vv), .unset, .unset, .unset, .unset, .unset] [(.int vv)])) _
        refine XS.bipush X189.here hx rfl (hb hby at_81) ?_
        show Steps p.tables e below (T189.setTop (mkF m 83 #[.val (.long q1), .second, .val (.long q2), .second, .val (.long q3), .second, .val (.int p4), .val (.int p5), .val (.int p6), .val (.int (3 : Int32)), .val (.ref b176), .val (.ref b185), .val (.int vv), .unset, .unset, .unset, .unset, .unset] [(.int (64 : Int32)), (.int vv)])) _
        refine XS.idiv X189.here hx rfl (hb hby at_83) rfl (by decide) ?_
        show Steps p.tables e below (T189.setTop (mkF m 84 #[.val (.long q1), .second, .val (.long q2), .second, .val (.long q3), .second, .val (.int p4), .val (.int p5), .val (.int p6), .val (.int (3 : Int32)), .val (.ref b176), .val (.ref b185), .val (.int vv), .unset, .unset, .unset, .unset, .unset] [(.int (vv / (64 : Int32)))])) _
        refine XS.istore X189.here hx rfl (hb hby at_84) rfl (l' := #[.val (.long q1), .second, .val (.long q2), .second, .val (.long q3), .second, .val (.int p4), .val (.int p5), .val (.int p6), .val (.int (3 : Int32)), .val (.ref b176), .val (.ref b185), .val (.int vv), .val (.int (vv / (64 : Int32))), .unset, .unset, .unset, .unset]) rfl ?_
        show Steps p.tables e below (T189.setTop (mkF m 86 #[.val (.long q1), .second, .val (.long q2), .second, .val (.long q3), .second, .val (.int p4), .val (.int p5), .val (.int p6), .val (.int (3 : Int32)), .val (.ref b176), .val (.ref b185), .val (.int vv), .val (.int (vv / (64 : Int32))), .unset, .unset, .unset, .unset] [])) _
        exact k
      generalize hv_kk : (vv / (64 : Int32)) = kk
      rw [hv_kk] at hkw
      show EndsQ _ _ _ _ _ _ _ (T189.setTop (mkF m 86 #[.val (.long q1), .second, .val (.long q2), .second, .val (.long q3), .second, .val (.int p4), .val (.int p5), .val (.int p6), .val (.int (3 : Int32)), .val (.ref b176), .val (.ref b185), .val (.int vv), .val (.int kk), .unset, .unset, .unset, .unset] []))
      refine EndsQ.go (b := T189.setTop (mkF m 93 #[.val (.long q1), .second, .val (.long q2), .second, .val (.long q3), .second, .val (.int p4), .val (.int p5), .val (.int p6), .val (.int (3 : Int32)), .val (.ref b176), .val (.ref b185), .val (.int vv), .val (.int kk), .val (.int (vv % (64 : Int32))), .unset, .unset, .unset] [])) (fun t k => ?_) ?_
      · show Steps p.tables e below (T189.setTop (mkF m 86 #[.val (.long q1), .second, .val (.long q2), .second, .val (.long q3), .second, .val (.int p4), .val (.int p5), .val (.int p6), .val (.int (3 : Int32)), .val (.ref b176), .val (.ref b185), .val (.int vv), .val (.int kk), .unset, .unset, .unset, .unset] [])) _
        refine XS.iload X189.here hx rfl (hb hby at_86) rfl ?_
        show Steps p.tables e below (T189.setTop (mkF m 88 #[.val (.long q1), .second, .val (.long q2), .second, .val (.long q3), .second, .val (.int p4), .val (.int p5), .val (.int p6), .val (.int (3 : Int32)), .val (.ref b176), .val (.ref b185), .val (.int vv), .val (.int kk), .unset, .unset, .unset, .unset] [(.int vv)])) _
        refine XS.bipush X189.here hx rfl (hb hby at_88) ?_
        show Steps p.tables e below (T189.setTop (mkF m 90 #[.val (.long q1), .second, .val (.long q2), .second, .val (.long q3), .second, .val (.int p4), .val (.int p5), .val (.int p6), .val (.int (3 : Int32)), .val (.ref b176), .val (.ref b185), .val (.int vv), .val (.int kk), .unset, .unset, .unset, .unset] [(.int (64 : Int32)), (.int vv)])) _
        refine iremM X189 hx rfl (hb hby at_90) rfl (by decide) ?_
        show Steps p.tables e below (T189.setTop (mkF m 91 #[.val (.long q1), .second, .val (.long q2), .second, .val (.long q3), .second, .val (.int p4), .val (.int p5), .val (.int p6), .val (.int (3 : Int32)), .val (.ref b176), .val (.ref b185), .val (.int vv), .val (.int kk), .unset, .unset, .unset, .unset] [(.int (vv % (64 : Int32)))])) _
        refine XS.istore X189.here hx rfl (hb hby at_91) rfl (l' := #[.val (.long q1), .second, .val (.long q2), .second, .val (.long q3), .second, .val (.int p4), .val (.int p5), .val (.int p6), .val (.int (3 : Int32)), .val (.ref b176), .val (.ref b185), .val (.int vv), .val (.int kk), .val (.int (vv % (64 : Int32))), .unset, .unset, .unset]) rfl ?_
        show Steps p.tables e below (T189.setTop (mkF m 93 #[.val (.long q1), .second, .val (.long q2), .second, .val (.long q3), .second, .val (.int p4), .val (.int p5), .val (.int p6), .val (.int (3 : Int32)), .val (.ref b176), .val (.ref b185), .val (.int vv), .val (.int kk), .val (.int (vv % (64 : Int32))), .unset, .unset, .unset] [])) _
        exact k
      generalize hv_bb : (vv % (64 : Int32)) = bb
      show EndsQ _ _ _ _ _ _ _ (T189.setTop (mkF m 93 #[.val (.long q1), .second, .val (.long q2), .second, .val (.long q3), .second, .val (.int p4), .val (.int p5), .val (.int p6), .val (.int (3 : Int32)), .val (.ref b176), .val (.ref b185), .val (.int vv), .val (.int kk), .val (.int bb), .unset, .unset, .unset] []))
      refine EndsQ.go (b := T189.setTop (mkF m 97 #[.val (.long q1), .second, .val (.long q2), .second, .val (.long q3), .second, .val (.int p4), .val (.int p5), .val (.int p6), .val (.int (3 : Int32)), .val (.ref b176), .val (.ref b185), .val (.int vv), .val (.int kk), .val (.int bb), .unset, .unset, .unset] [(.int (3 : Int32)), (.int kk)])) (fun t k => ?_) ?_
      · show Steps p.tables e below (T189.setTop (mkF m 93 #[.val (.long q1), .second, .val (.long q2), .second, .val (.long q3), .second, .val (.int p4), .val (.int p5), .val (.int p6), .val (.int (3 : Int32)), .val (.ref b176), .val (.ref b185), .val (.int vv), .val (.int kk), .val (.int bb), .unset, .unset, .unset] [])) _
        refine XS.iload X189.here hx rfl (hb hby at_93) rfl ?_
        show Steps p.tables e below (T189.setTop (mkF m 95 #[.val (.long q1), .second, .val (.long q2), .second, .val (.long q3), .second, .val (.int p4), .val (.int p5), .val (.int p6), .val (.int (3 : Int32)), .val (.ref b176), .val (.ref b185), .val (.int vv), .val (.int kk), .val (.int bb), .unset, .unset, .unset] [(.int kk)])) _
        refine XS.iload X189.here hx rfl (hb hby at_95) rfl ?_
        show Steps p.tables e below (T189.setTop (mkF m 97 #[.val (.long q1), .second, .val (.long q2), .second, .val (.long q3), .second, .val (.int p4), .val (.int p5), .val (.int p6), .val (.int (3 : Int32)), .val (.ref b176), .val (.ref b185), .val (.int vv), .val (.int kk), .val (.int bb), .unset, .unset, .unset] [(.int (3 : Int32)), (.int kk)])) _
        exact k
      by_cases hc97_213 : kk < (3 : Int32)
      · refine EndsQ.go (b := T189.setTop (mkF m 106 #[.val (.long q1), .second, .val (.long q2), .second, .val (.long q3), .second, .val (.int p4), .val (.int p5), .val (.int p6), .val (.int (3 : Int32)), .val (.ref b176), .val (.ref b185), .val (.int vv), .val (.int kk), .val (.int bb), .unset, .unset, .unset] [])) (fun t k => ?_) ?_
        · show Steps p.tables e below (T189.setTop (mkF m 97 #[.val (.long q1), .second, .val (.long q2), .second, .val (.long q3), .second, .val (.int p4), .val (.int p5), .val (.int p6), .val (.int (3 : Int32)), .val (.ref b176), .val (.ref b185), .val (.int vv), .val (.int kk), .val (.int bb), .unset, .unset, .unset] [(.int (3 : Int32)), (.int kk)])) _
          refine XS.icmpYes X189.here hx rfl (pc0 := 97) (pc' := 106) rfl (hb hby at_97) rfl (tlt hc97_213).1 (by decide) (by decide) ?_
          show Steps p.tables e below (T189.setTop (mkF m 106 #[.val (.long q1), .second, .val (.long q2), .second, .val (.long q3), .second, .val (.int p4), .val (.int p5), .val (.int p6), .val (.int (3 : Int32)), .val (.ref b176), .val (.ref b185), .val (.int vv), .val (.int kk), .val (.int bb), .unset, .unset, .unset] [])) _
          exact k
        refine EndsQ.go (b := T189.setTop (mkF m 108 #[.val (.long q1), .second, .val (.long q2), .second, .val (.long q3), .second, .val (.int p4), .val (.int p5), .val (.int p6), .val (.int (3 : Int32)), .val (.ref b176), .val (.ref b185), .val (.int vv), .val (.int kk), .val (.int bb), .unset, .unset, .unset] [(.int kk)])) (fun t k => ?_) ?_
        · show Steps p.tables e below (T189.setTop (mkF m 106 #[.val (.long q1), .second, .val (.long q2), .second, .val (.long q3), .second, .val (.int p4), .val (.int p5), .val (.int p6), .val (.int (3 : Int32)), .val (.ref b176), .val (.ref b185), .val (.int vv), .val (.int kk), .val (.int bb), .unset, .unset, .unset] [])) _
          refine XS.iload X189.here hx rfl (hb hby at_106) rfl ?_
          show Steps p.tables e below (T189.setTop (mkF m 108 #[.val (.long q1), .second, .val (.long q2), .second, .val (.long q3), .second, .val (.int p4), .val (.int p5), .val (.int p6), .val (.int (3 : Int32)), .val (.ref b176), .val (.ref b185), .val (.int vv), .val (.int kk), .val (.int bb), .unset, .unset, .unset] [(.int kk)])) _
          exact k
        refine EndsQ.go (b := T189.setTop (mkF m 127 #[.val (.long q1), .second, .val (.long q2), .second, .val (.long q3), .second, .val (.int p4), .val (.int p5), .val (.int p6), .val (.int (3 : Int32)), .val (.ref b176), .val (.ref b185), .val (.int vv), .val (.int kk), .val (.int bb), .unset, .unset, .unset] [(.long (if kk = (0 : Int32) then q1 else (if kk = (1 : Int32) then q2 else q3)))])) (fun t k => ?_) ?_
        · by_cases hc108_214 : kk = (0 : Int32)
          · refine XS.ifNo X189.here hx rfl (hb hby at_108) rfl ((if0 _ _).trans (teq hc108_214).2) ?_
            show Steps p.tables e below (T189.setTop (mkF m 111 #[.val (.long q1), .second, .val (.long q2), .second, .val (.long q3), .second, .val (.int p4), .val (.int p5), .val (.int p6), .val (.int (3 : Int32)), .val (.ref b176), .val (.ref b185), .val (.int vv), .val (.int kk), .val (.int bb), .unset, .unset, .unset] [])) _
            refine XS.lloadN X189.here hx rfl (hb hby at_111) rfl ?_
            show Steps p.tables e below (T189.setTop (mkF m 112 #[.val (.long q1), .second, .val (.long q2), .second, .val (.long q3), .second, .val (.int p4), .val (.int p5), .val (.int p6), .val (.int (3 : Int32)), .val (.ref b176), .val (.ref b185), .val (.int vv), .val (.int kk), .val (.int bb), .unset, .unset, .unset] [(.long q1)])) _
            refine XS.goto X189.here hx rfl (pc0 := 112) (pc' := 127) rfl (hb hby at_112) (by decide) (by decide) ?_
            show Steps p.tables e below (T189.setTop (mkF m 127 #[.val (.long q1), .second, .val (.long q2), .second, .val (.long q3), .second, .val (.int p4), .val (.int p5), .val (.int p6), .val (.int (3 : Int32)), .val (.ref b176), .val (.ref b185), .val (.int vv), .val (.int kk), .val (.int bb), .unset, .unset, .unset] [(.long q1)])) _
            have j0 : (if kk = (0 : Int32) then q1 else (if kk = (1 : Int32) then q2 else q3)) = q1 := by rw [if_pos hc108_214]
            rw [j0] at k
            exact k
          · refine XS.ifYes X189.here hx rfl (pc0 := 108) (pc' := 115) rfl (hb hby at_108) rfl ((if0 _ _).trans (feq hc108_214).2) (by decide) (by decide) ?_
            show Steps p.tables e below (T189.setTop (mkF m 115 #[.val (.long q1), .second, .val (.long q2), .second, .val (.long q3), .second, .val (.int p4), .val (.int p5), .val (.int p6), .val (.int (3 : Int32)), .val (.ref b176), .val (.ref b185), .val (.int vv), .val (.int kk), .val (.int bb), .unset, .unset, .unset] [])) _
            refine XS.iload X189.here hx rfl (hb hby at_115) rfl ?_
            show Steps p.tables e below (T189.setTop (mkF m 117 #[.val (.long q1), .second, .val (.long q2), .second, .val (.long q3), .second, .val (.int p4), .val (.int p5), .val (.int p6), .val (.int (3 : Int32)), .val (.ref b176), .val (.ref b185), .val (.int vv), .val (.int kk), .val (.int bb), .unset, .unset, .unset] [(.int kk)])) _
            refine XS.iconst X189.here hx rfl (hb hby at_117) ?_
            show Steps p.tables e below (T189.setTop (mkF m 118 #[.val (.long q1), .second, .val (.long q2), .second, .val (.long q3), .second, .val (.int p4), .val (.int p5), .val (.int p6), .val (.int (3 : Int32)), .val (.ref b176), .val (.ref b185), .val (.int vv), .val (.int kk), .val (.int bb), .unset, .unset, .unset] [(.int (1 : Int32)), (.int kk)])) _
            by_cases hc118_215 : kk = (1 : Int32)
            · refine XS.icmpNo X189.here hx rfl (hb hby at_118) rfl (teq hc118_215).2 ?_
              show Steps p.tables e below (T189.setTop (mkF m 121 #[.val (.long q1), .second, .val (.long q2), .second, .val (.long q3), .second, .val (.int p4), .val (.int p5), .val (.int p6), .val (.int (3 : Int32)), .val (.ref b176), .val (.ref b185), .val (.int vv), .val (.int kk), .val (.int bb), .unset, .unset, .unset] [])) _
              refine XS.lloadN X189.here hx rfl (hb hby at_121) rfl ?_
              show Steps p.tables e below (T189.setTop (mkF m 122 #[.val (.long q1), .second, .val (.long q2), .second, .val (.long q3), .second, .val (.int p4), .val (.int p5), .val (.int p6), .val (.int (3 : Int32)), .val (.ref b176), .val (.ref b185), .val (.int vv), .val (.int kk), .val (.int bb), .unset, .unset, .unset] [(.long q2)])) _
              refine XS.goto X189.here hx rfl (pc0 := 122) (pc' := 127) rfl (hb hby at_122) (by decide) (by decide) ?_
              show Steps p.tables e below (T189.setTop (mkF m 127 #[.val (.long q1), .second, .val (.long q2), .second, .val (.long q3), .second, .val (.int p4), .val (.int p5), .val (.int p6), .val (.int (3 : Int32)), .val (.ref b176), .val (.ref b185), .val (.int vv), .val (.int kk), .val (.int bb), .unset, .unset, .unset] [(.long q2)])) _
              have j0 : (if kk = (0 : Int32) then q1 else (if kk = (1 : Int32) then q2 else q3)) = q2 := by rw [if_neg hc108_214, if_pos hc118_215]
              rw [j0] at k
              exact k
            · refine XS.icmpYes X189.here hx rfl (pc0 := 118) (pc' := 125) rfl (hb hby at_118) rfl (feq hc118_215).2 (by decide) (by decide) ?_
              show Steps p.tables e below (T189.setTop (mkF m 125 #[.val (.long q1), .second, .val (.long q2), .second, .val (.long q3), .second, .val (.int p4), .val (.int p5), .val (.int p6), .val (.int (3 : Int32)), .val (.ref b176), .val (.ref b185), .val (.int vv), .val (.int kk), .val (.int bb), .unset, .unset, .unset] [])) _
              refine XS.lload X189.here hx rfl (hb hby at_125) rfl ?_
              show Steps p.tables e below (T189.setTop (mkF m 127 #[.val (.long q1), .second, .val (.long q2), .second, .val (.long q3), .second, .val (.int p4), .val (.int p5), .val (.int p6), .val (.int (3 : Int32)), .val (.ref b176), .val (.ref b185), .val (.int vv), .val (.int kk), .val (.int bb), .unset, .unset, .unset] [(.long q3)])) _
              have j0 : (if kk = (0 : Int32) then q1 else (if kk = (1 : Int32) then q2 else q3)) = q3 := by rw [if_neg hc108_214, if_neg hc118_215]
              rw [j0] at k
              exact k
        generalize hv_ww : (if kk = (0 : Int32) then q1 else (if kk = (1 : Int32) then q2 else q3)) = ww
        show EndsQ _ _ _ _ _ _ _ (T189.setTop (mkF m 127 #[.val (.long q1), .second, .val (.long q2), .second, .val (.long q3), .second, .val (.int p4), .val (.int p5), .val (.int p6), .val (.int (3 : Int32)), .val (.ref b176), .val (.ref b185), .val (.int vv), .val (.int kk), .val (.int bb), .unset, .unset, .unset] [(.long ww)]))
        refine EndsQ.go (b := T189.setTop (mkF m 138 #[.val (.long q1), .second, .val (.long q2), .second, .val (.long q3), .second, .val (.int p4), .val (.int p5), .val (.int p6), .val (.int (3 : Int32)), .val (.ref b176), .val (.ref b185), .val (.int vv), .val (.int kk), .val (.int bb), .unset, .val (.long ww), .second] [(.int (lcmpW (ww &&& ((1 : Int64) <<< (bb &&& 0x3f).toInt64)) (0 : Int64)))])) (fun t k => ?_) ?_
        · show Steps p.tables e below (T189.setTop (mkF m 127 #[.val (.long q1), .second, .val (.long q2), .second, .val (.long q3), .second, .val (.int p4), .val (.int p5), .val (.int p6), .val (.int (3 : Int32)), .val (.ref b176), .val (.ref b185), .val (.int vv), .val (.int kk), .val (.int bb), .unset, .unset, .unset] [(.long ww)])) _
          refine XS.lstore X189.here hx rfl (hb hby at_127) rfl (l' := #[.val (.long q1), .second, .val (.long q2), .second, .val (.long q3), .second, .val (.int p4), .val (.int p5), .val (.int p6), .val (.int (3 : Int32)), .val (.ref b176), .val (.ref b185), .val (.int vv), .val (.int kk), .val (.int bb), .unset, .val (.long ww), .second]) rfl ?_
          show Steps p.tables e below (T189.setTop (mkF m 129 #[.val (.long q1), .second, .val (.long q2), .second, .val (.long q3), .second, .val (.int p4), .val (.int p5), .val (.int p6), .val (.int (3 : Int32)), .val (.ref b176), .val (.ref b185), .val (.int vv), .val (.int kk), .val (.int bb), .unset, .val (.long ww), .second] [])) _
          refine XS.lload X189.here hx rfl (hb hby at_129) rfl ?_
          show Steps p.tables e below (T189.setTop (mkF m 131 #[.val (.long q1), .second, .val (.long q2), .second, .val (.long q3), .second, .val (.int p4), .val (.int p5), .val (.int p6), .val (.int (3 : Int32)), .val (.ref b176), .val (.ref b185), .val (.int vv), .val (.int kk), .val (.int bb), .unset, .val (.long ww), .second] [(.long ww)])) _
          refine XS.lconst X189.here hx rfl (hb hby at_131) ?_
          show Steps p.tables e below (T189.setTop (mkF m 132 #[.val (.long q1), .second, .val (.long q2), .second, .val (.long q3), .second, .val (.int p4), .val (.int p5), .val (.int p6), .val (.int (3 : Int32)), .val (.ref b176), .val (.ref b185), .val (.int vv), .val (.int kk), .val (.int bb), .unset, .val (.long ww), .second] [(.long (1 : Int64)), (.long ww)])) _
          refine XS.iload X189.here hx rfl (hb hby at_132) rfl ?_
          show Steps p.tables e below (T189.setTop (mkF m 134 #[.val (.long q1), .second, .val (.long q2), .second, .val (.long q3), .second, .val (.int p4), .val (.int p5), .val (.int p6), .val (.int (3 : Int32)), .val (.ref b176), .val (.ref b185), .val (.int vv), .val (.int kk), .val (.int bb), .unset, .val (.long ww), .second] [(.int bb), (.long (1 : Int64)), (.long ww)])) _
          refine XS.lshl X189.here hx rfl (hb hby at_134) rfl ?_
          show Steps p.tables e below (T189.setTop (mkF m 135 #[.val (.long q1), .second, .val (.long q2), .second, .val (.long q3), .second, .val (.int p4), .val (.int p5), .val (.int p6), .val (.int (3 : Int32)), .val (.ref b176), .val (.ref b185), .val (.int vv), .val (.int kk), .val (.int bb), .unset, .val (.long ww), .second] [(.long ((1 : Int64) <<< (bb &&& 0x3f).toInt64)), (.long ww)])) _
          refine XS.land X189.here hx rfl (hb hby at_135) rfl ?_
          show Steps p.tables e below (T189.setTop (mkF m 136 #[.val (.long q1), .second, .val (.long q2), .second, .val (.long q3), .second, .val (.int p4), .val (.int p5), .val (.int p6), .val (.int (3 : Int32)), .val (.ref b176), .val (.ref b185), .val (.int vv), .val (.int kk), .val (.int bb), .unset, .val (.long ww), .second] [(.long (ww &&& ((1 : Int64) <<< (bb &&& 0x3f).toInt64)))])) _
          refine XS.lconst X189.here hx rfl (hb hby at_136) ?_
          show Steps p.tables e below (T189.setTop (mkF m 137 #[.val (.long q1), .second, .val (.long q2), .second, .val (.long q3), .second, .val (.int p4), .val (.int p5), .val (.int p6), .val (.int (3 : Int32)), .val (.ref b176), .val (.ref b185), .val (.int vv), .val (.int kk), .val (.int bb), .unset, .val (.long ww), .second] [(.long (0 : Int64)), (.long (ww &&& ((1 : Int64) <<< (bb &&& 0x3f).toInt64)))])) _
          refine XS.lcmp X189.here hx rfl (hb hby at_137) rfl ?_
          show Steps p.tables e below (T189.setTop (mkF m 138 #[.val (.long q1), .second, .val (.long q2), .second, .val (.long q3), .second, .val (.int p4), .val (.int p5), .val (.int p6), .val (.int (3 : Int32)), .val (.ref b176), .val (.ref b185), .val (.int vv), .val (.int kk), .val (.int bb), .unset, .val (.long ww), .second] [(.int (lcmpW (ww &&& ((1 : Int64) <<< (bb &&& 0x3f).toInt64)) (0 : Int64)))])) _
          exact k
        refine EndsQ.go (b := T189.setTop (mkF m 146 #[.val (.long q1), .second, .val (.long q2), .second, .val (.long q3), .second, .val (.int p4), .val (.int p5), .val (.int p6), .val (.int (3 : Int32)), .val (.ref b176), .val (.ref b185), .val (.int vv), .val (.int kk), .val (.int bb), .unset, .val (.long ww), .second] [(.int (if (ww &&& ((1 : Int64) <<< (bb &&& 0x3f).toInt64)) = (0 : Int64) then (0 : Int32) else (1 : Int32)))])) (fun t k => ?_) ?_
        · by_cases hc138_216 : (ww &&& ((1 : Int64) <<< (bb &&& 0x3f).toInt64)) = (0 : Int64)
          · refine XS.ifYes X189.here hx rfl (pc0 := 138) (pc' := 145) rfl (hb hby at_138) rfl ((if0 _ _).trans (teq ((lw_eq (ww &&& ((1 : Int64) <<< (bb &&& 0x3f).toInt64)) (0 : Int64)).mpr hc138_216)).1) (by decide) (by decide) ?_
            show Steps p.tables e below (T189.setTop (mkF m 145 #[.val (.long q1), .second, .val (.long q2), .second, .val (.long q3), .second, .val (.int p4), .val (.int p5), .val (.int p6), .val (.int (3 : Int32)), .val (.ref b176), .val (.ref b185), .val (.int vv), .val (.int kk), .val (.int bb), .unset, .val (.long ww), .second] [])) _
            refine XS.iconst X189.here hx rfl (hb hby at_145) ?_
            show Steps p.tables e below (T189.setTop (mkF m 146 #[.val (.long q1), .second, .val (.long q2), .second, .val (.long q3), .second, .val (.int p4), .val (.int p5), .val (.int p6), .val (.int (3 : Int32)), .val (.ref b176), .val (.ref b185), .val (.int vv), .val (.int kk), .val (.int bb), .unset, .val (.long ww), .second] [(.int (0 : Int32))])) _
            have j0 : (if (ww &&& ((1 : Int64) <<< (bb &&& 0x3f).toInt64)) = (0 : Int64) then (0 : Int32) else (1 : Int32)) = (0 : Int32) := by rw [if_pos hc138_216]
            rw [j0] at k
            exact k
          · refine XS.ifNo X189.here hx rfl (hb hby at_138) rfl ((if0 _ _).trans (feq (fun q => hc138_216 ((lw_eq (ww &&& ((1 : Int64) <<< (bb &&& 0x3f).toInt64)) (0 : Int64)).mp q))).1) ?_
            show Steps p.tables e below (T189.setTop (mkF m 141 #[.val (.long q1), .second, .val (.long q2), .second, .val (.long q3), .second, .val (.int p4), .val (.int p5), .val (.int p6), .val (.int (3 : Int32)), .val (.ref b176), .val (.ref b185), .val (.int vv), .val (.int kk), .val (.int bb), .unset, .val (.long ww), .second] [])) _
            refine XS.iconst X189.here hx rfl (hb hby at_141) ?_
            show Steps p.tables e below (T189.setTop (mkF m 142 #[.val (.long q1), .second, .val (.long q2), .second, .val (.long q3), .second, .val (.int p4), .val (.int p5), .val (.int p6), .val (.int (3 : Int32)), .val (.ref b176), .val (.ref b185), .val (.int vv), .val (.int kk), .val (.int bb), .unset, .val (.long ww), .second] [(.int (1 : Int32))])) _
            refine XS.goto X189.here hx rfl (pc0 := 142) (pc' := 146) rfl (hb hby at_142) (by decide) (by decide) ?_
            show Steps p.tables e below (T189.setTop (mkF m 146 #[.val (.long q1), .second, .val (.long q2), .second, .val (.long q3), .second, .val (.int p4), .val (.int p5), .val (.int p6), .val (.int (3 : Int32)), .val (.ref b176), .val (.ref b185), .val (.int vv), .val (.int kk), .val (.int bb), .unset, .val (.long ww), .second] [(.int (1 : Int32))])) _
            have j0 : (if (ww &&& ((1 : Int64) <<< (bb &&& 0x3f).toInt64)) = (0 : Int64) then (0 : Int32) else (1 : Int32)) = (1 : Int32) := by rw [if_neg hc138_216]
            rw [j0] at k
            exact k
        generalize hv_ee : (if (ww &&& ((1 : Int64) <<< (bb &&& 0x3f).toInt64)) = (0 : Int64) then (0 : Int32) else (1 : Int32)) = ee
        show EndsQ _ _ _ _ _ _ _ (T189.setTop (mkF m 146 #[.val (.long q1), .second, .val (.long q2), .second, .val (.long q3), .second, .val (.int p4), .val (.int p5), .val (.int p6), .val (.int (3 : Int32)), .val (.ref b176), .val (.ref b185), .val (.int vv), .val (.int kk), .val (.int bb), .unset, .val (.long ww), .second] [(.int ee)]))
        refine EndsQ.go (b := T189.setTop (mkF m 152 #[.val (.long q1), .second, .val (.long q2), .second, .val (.long q3), .second, .val (.int p4), .val (.int p5), .val (.int p6), .val (.int (3 : Int32)), .val (.ref b176), .val (.ref b185), .val (.int vv), .val (.int kk), .val (.int bb), .val (.int ee), .val (.long ww), .second] [(.int vv), (.ref b185)])) (fun t k => ?_) ?_
        · show Steps p.tables e below (T189.setTop (mkF m 146 #[.val (.long q1), .second, .val (.long q2), .second, .val (.long q3), .second, .val (.int p4), .val (.int p5), .val (.int p6), .val (.int (3 : Int32)), .val (.ref b176), .val (.ref b185), .val (.int vv), .val (.int kk), .val (.int bb), .unset, .val (.long ww), .second] [(.int ee)])) _
          refine XS.istore X189.here hx rfl (hb hby at_146) rfl (l' := #[.val (.long q1), .second, .val (.long q2), .second, .val (.long q3), .second, .val (.int p4), .val (.int p5), .val (.int p6), .val (.int (3 : Int32)), .val (.ref b176), .val (.ref b185), .val (.int vv), .val (.int kk), .val (.int bb), .val (.int ee), .val (.long ww), .second]) rfl ?_
          show Steps p.tables e below (T189.setTop (mkF m 148 #[.val (.long q1), .second, .val (.long q2), .second, .val (.long q3), .second, .val (.int p4), .val (.int p5), .val (.int p6), .val (.int (3 : Int32)), .val (.ref b176), .val (.ref b185), .val (.int vv), .val (.int kk), .val (.int bb), .val (.int ee), .val (.long ww), .second] [])) _
          refine XS.aload X189.here hx rfl (hb hby at_148) rfl rfl ?_
          show Steps p.tables e below (T189.setTop (mkF m 150 #[.val (.long q1), .second, .val (.long q2), .second, .val (.long q3), .second, .val (.int p4), .val (.int p5), .val (.int p6), .val (.int (3 : Int32)), .val (.ref b176), .val (.ref b185), .val (.int vv), .val (.int kk), .val (.int bb), .val (.int ee), .val (.long ww), .second] [(.ref b185)])) _
          refine XS.iload X189.here hx rfl (hb hby at_150) rfl ?_
          show Steps p.tables e below (T189.setTop (mkF m 152 #[.val (.long q1), .second, .val (.long q2), .second, .val (.long q3), .second, .val (.int p4), .val (.int p5), .val (.int p6), .val (.int (3 : Int32)), .val (.ref b176), .val (.ref b185), .val (.int vv), .val (.int kk), .val (.int bb), .val (.int ee), .val (.long ww), .second] [(.int vv), (.ref b185)])) _
          exact k
        have hsel : own_w vv < (0 : Int32) → (¬ own_w vv < 0 ∧ own_w vv < (0 : Int32)) ∧ ([] : List Value).getD (own_w vv).toNatClampNeg (.long (0 : Int64)) = .long ww := by
          intro hlt
          rw [hkw.1] at hlt ⊢
          rw [← hv_ww]
          rcases own_c3 kk hkw.2 with q | q | q | q
          · rw [q] at hlt ⊢; exact absurd hlt (by decide)
          · rw [q] at hlt ⊢; exact absurd hlt (by decide)
          · rw [q] at hlt ⊢; exact absurd hlt (by decide)
          · exact absurd hlt (own_gt2 kk (0 : Int32) q (by decide))
        have hz0 : ¬ kk < (0 : Int32) → ww = 0 := by
          intro hlt
          rw [← hv_ww]
          rcases own_c3 kk hkw.2 with q | q | q | q
          · rw [q] at hlt hc97_213 ⊢; exact hz0
          · rw [q] at hlt hc97_213 ⊢; exact hz1
          · rw [q] at hlt hc97_213 ⊢; exact hz2
          · exact absurd hc97_213 (own_gt2 kk (3 : Int32) q (by decide))
        obtain ⟨cq217, kq217, qa217, qb217, qc217⟩ := isOf hZ rfl Ex189
        obtain ⟨_, _, ⟨T217, L217, kk217, nn217⟩, -, X217, ⟨Lc217, hQ217, l217, y217, z217⟩, st217⟩ := X189.virtualBack hx (y := (⟨"com/example/sextant/sextant/ValueSet", "contains", "(I)Z"⟩ : MethodName)) (z := (⟨"com/example/sextant/sextant/ValueSet", "contains", "(I)Z"⟩ : MethodName)) hown (mvT hZ (hw _ (List.mem_of_getElem? (i := 13) rfl))) (mvT hZ (hw _ (List.mem_of_getElem? (i := 14) rfl))) (notFace_of_selects (args := #[]) (mvT hZ (hw _ (List.mem_of_getElem? (i := 16) rfl)))) (mvT hZ (hw _ (List.mem_of_getElem? (i := 16) rfl))) (mvT hZ (hw _ (List.mem_of_getElem? (i := 15) rfl))) (by decide) (backOf (W := 0) (rm3 l Z a0 hw [] b185 vv c189 kc189 (0 : Int32) [] ww T189.heap n0 f190 Fx189 Vx189 hsel) hZ (hw _ (List.mem_of_getElem? (i := 17) rfl)) (hw _ (List.mem_of_getElem? (i := 3) rfl)) (by decide) (by decide)) qa217 qc217 (g := (mkF m 152 #[.val (.long q1), .second, .val (.long q2), .second, .val (.long q3), .second, .val (.int p4), .val (.int p5), .val (.int p6), .val (.int (3 : Int32)), .val (.ref b176), .val (.ref b185), .val (.int vv), .val (.int kk), .val (.int bb), .val (.int ee), .val (.long ww), .second] [(.int vv), (.ref b185)])) rfl (by rw [hml]; rfl) (Steps.refl _) (argsL := [(.int vv)]) (rest := []) (lenOf pd_3 rfl) rfl (by show 2 * 0 + _ ≤ _; exact Nat.le_of_eq rfl) (hb hby at_152) (fun _ _ => ⟨rfl, rfl, (by decide : 3 + 0 ≤ _), (by decide : 6 + 0 ≤ _)⟩)
        dsimp only [Pt.U, Pt.locs, Pt.cells, Pt.slots] at X217 l217 y217 z217 st217 hQ217
        subst l217 y217 z217
        obtain ⟨rfl, Nq217, eq217⟩ := hQ217
        have N217 := Fr.app N189 Nq217
        refine EndsQ.go (fun t k => st217.trans k) ?_
        show EndsQ _ _ _ _ _ _ _ (T217.setTop (mkF m 155 #[.val (.long q1), .second, .val (.long q2), .second, .val (.long q3), .second, .val (.int p4), .val (.int p5), .val (.int p6), .val (.int (3 : Int32)), .val (.ref b176), .val (.ref b185), .val (.int vv), .val (.int kk), .val (.int bb), .val (.int ee), .val (.long ww), .second] [(.int (own_has vv (0 : Int32) ww))]))
        refine EndsQ.go (b := T217.setTop (mkF m 165 #[.val (.long q1), .second, .val (.long q2), .second, .val (.long q3), .second, .val (.int p4), .val (.int p5), .val (.int p6), .val (.int (3 : Int32)), .val (.ref b176), .val (.ref b185), .val (.int vv), .val (.int kk), .val (.int bb), .val (.int ee), .val (.long ww), .second] [(.int (1 : Int32))])) (fun t k => ?_) ?_
        · show Steps p.tables e below (T217.setTop (mkF m 155 #[.val (.long q1), .second, .val (.long q2), .second, .val (.long q3), .second, .val (.int p4), .val (.int p5), .val (.int p6), .val (.int (3 : Int32)), .val (.ref b176), .val (.ref b185), .val (.int vv), .val (.int kk), .val (.int bb), .val (.int ee), .val (.long ww), .second] [(.int (own_has vv (0 : Int32) ww))])) _
          refine XS.iload X217.here hx rfl (hb hby at_155) rfl ?_
          show Steps p.tables e below (T217.setTop (mkF m 157 #[.val (.long q1), .second, .val (.long q2), .second, .val (.long q3), .second, .val (.int p4), .val (.int p5), .val (.int p6), .val (.int (3 : Int32)), .val (.ref b176), .val (.ref b185), .val (.int vv), .val (.int kk), .val (.int bb), .val (.int ee), .val (.long ww), .second] [(.int ee), (.int (own_has vv (0 : Int32) ww))])) _
          refine XS.icmpNo X217.here hx rfl (hb hby at_157) rfl (teq ((own_hasB vv (0 : Int32) kk bb ww hb_v hkw.1 hv_bb hz0).trans hv_ee)).2 ?_
          show Steps p.tables e below (T217.setTop (mkF m 160 #[.val (.long q1), .second, .val (.long q2), .second, .val (.long q3), .second, .val (.int p4), .val (.int p5), .val (.int p6), .val (.int (3 : Int32)), .val (.ref b176), .val (.ref b185), .val (.int vv), .val (.int kk), .val (.int bb), .val (.int ee), .val (.long ww), .second] [])) _
          refine XS.iconst X217.here hx rfl (hb hby at_160) ?_
          show Steps p.tables e below (T217.setTop (mkF m 161 #[.val (.long q1), .second, .val (.long q2), .second, .val (.long q3), .second, .val (.int p4), .val (.int p5), .val (.int p6), .val (.int (3 : Int32)), .val (.ref b176), .val (.ref b185), .val (.int vv), .val (.int kk), .val (.int bb), .val (.int ee), .val (.long ww), .second] [(.int (1 : Int32))])) _
          refine XS.goto X217.here hx rfl (pc0 := 161) (pc' := 165) rfl (hb hby at_161) (by decide) (by decide) ?_
          show Steps p.tables e below (T217.setTop (mkF m 165 #[.val (.long q1), .second, .val (.long q2), .second, .val (.long q3), .second, .val (.int p4), .val (.int p5), .val (.int p6), .val (.int (3 : Int32)), .val (.ref b176), .val (.ref b185), .val (.int vv), .val (.int kk), .val (.int bb), .val (.int ee), .val (.long ww), .second] [(.int (1 : Int32))])) _
          exact k
        refine EndsQ.retN X217 hx Bd.notSynchronized (t := .boolean) Bd.returns (by simp) (hb hby at_165) (by decide) (by decide) ?_
        show Q0 Z q1 q2 q3 p4 p5 p6 h0 n0 (some (.int (nar .boolean (1 : Int32)))) T217.heap _
        rw [eq217]
        exact ⟨rfl, N217⟩
      · refine EndsQ.go (b := T189.setTop (mkF m 100 #[.val (.long q1), .second, .val (.long q2), .second, .val (.long q3), .second, .val (.int p4), .val (.int p5), .val (.int p6), .val (.int (3 : Int32)), .val (.ref b176), .val (.ref b185), .val (.int vv), .val (.int kk), .val (.int bb), .unset, .unset, .unset] [])) (fun t k => ?_) ?_
        · show Steps p.tables e below (T189.setTop (mkF m 97 #[.val (.long q1), .second, .val (.long q2), .second, .val (.long q3), .second, .val (.int p4), .val (.int p5), .val (.int p6), .val (.int (3 : Int32)), .val (.ref b176), .val (.ref b185), .val (.int vv), .val (.int kk), .val (.int bb), .unset, .unset, .unset] [(.int (3 : Int32)), (.int kk)])) _
          refine XS.icmpNo X189.here hx rfl (hb hby at_97) rfl (flt hc97_213).1 ?_
          show Steps p.tables e below (T189.setTop (mkF m 100 #[.val (.long q1), .second, .val (.long q2), .second, .val (.long q3), .second, .val (.int p4), .val (.int p5), .val (.int p6), .val (.int (3 : Int32)), .val (.ref b176), .val (.ref b185), .val (.int vv), .val (.int kk), .val (.int bb), .unset, .unset, .unset] [])) _
          exact k
        refine EndsQ.go (b := T189.setTop (mkF m 152 #[.val (.long q1), .second, .val (.long q2), .second, .val (.long q3), .second, .val (.int p4), .val (.int p5), .val (.int p6), .val (.int (3 : Int32)), .val (.ref b176), .val (.ref b185), .val (.int vv), .val (.int kk), .val (.int bb), .val (.int (0 : Int32)), .unset, .unset] [(.int vv), (.ref b185)])) (fun t k => ?_) ?_
        · show Steps p.tables e below (T189.setTop (mkF m 100 #[.val (.long q1), .second, .val (.long q2), .second, .val (.long q3), .second, .val (.int p4), .val (.int p5), .val (.int p6), .val (.int (3 : Int32)), .val (.ref b176), .val (.ref b185), .val (.int vv), .val (.int kk), .val (.int bb), .unset, .unset, .unset] [])) _
          refine XS.iconst X189.here hx rfl (hb hby at_100) ?_
          show Steps p.tables e below (T189.setTop (mkF m 101 #[.val (.long q1), .second, .val (.long q2), .second, .val (.long q3), .second, .val (.int p4), .val (.int p5), .val (.int p6), .val (.int (3 : Int32)), .val (.ref b176), .val (.ref b185), .val (.int vv), .val (.int kk), .val (.int bb), .unset, .unset, .unset] [(.int (0 : Int32))])) _
          refine XS.istore X189.here hx rfl (hb hby at_101) rfl (l' := #[.val (.long q1), .second, .val (.long q2), .second, .val (.long q3), .second, .val (.int p4), .val (.int p5), .val (.int p6), .val (.int (3 : Int32)), .val (.ref b176), .val (.ref b185), .val (.int vv), .val (.int kk), .val (.int bb), .val (.int (0 : Int32)), .unset, .unset]) rfl ?_
          show Steps p.tables e below (T189.setTop (mkF m 103 #[.val (.long q1), .second, .val (.long q2), .second, .val (.long q3), .second, .val (.int p4), .val (.int p5), .val (.int p6), .val (.int (3 : Int32)), .val (.ref b176), .val (.ref b185), .val (.int vv), .val (.int kk), .val (.int bb), .val (.int (0 : Int32)), .unset, .unset] [])) _
          refine XS.goto X189.here hx rfl (pc0 := 103) (pc' := 148) rfl (hb hby at_103) (by decide) (by decide) ?_
          show Steps p.tables e below (T189.setTop (mkF m 148 #[.val (.long q1), .second, .val (.long q2), .second, .val (.long q3), .second, .val (.int p4), .val (.int p5), .val (.int p6), .val (.int (3 : Int32)), .val (.ref b176), .val (.ref b185), .val (.int vv), .val (.int kk), .val (.int bb), .val (.int (0 : Int32)), .unset, .unset] [])) _
          refine XS.aload X189.here hx rfl (hb hby at_148) rfl rfl ?_
          show Steps p.tables e below (T189.setTop (mkF m 150 #[.val (.long q1), .second, .val (.long q2), .second, .val (.long q3), .second, .val (.int p4), .val (.int p5), .val (.int p6), .val (.int (3 : Int32)), .val (.ref b176), .val (.ref b185), .val (.int vv), .val (.int kk), .val (.int bb), .val (.int (0 : Int32)), .unset, .unset] [(.ref b185)])) _
          refine XS.iload X189.here hx rfl (hb hby at_150) rfl ?_
          show Steps p.tables e below (T189.setTop (mkF m 152 #[.val (.long q1), .second, .val (.long q2), .second, .val (.long q3), .second, .val (.int p4), .val (.int p5), .val (.int p6), .val (.int (3 : Int32)), .val (.ref b176), .val (.ref b185), .val (.int vv), .val (.int kk), .val (.int bb), .val (.int (0 : Int32)), .unset, .unset] [(.int vv), (.ref b185)])) _
          exact k
        obtain ⟨cq218, kq218, qa218, qb218, qc218⟩ := isOf hZ rfl Ex189
        obtain ⟨_, _, ⟨T218, L218, kk218, nn218⟩, -, X218, ⟨Lc218, hQ218, l218, y218, z218⟩, st218⟩ := X189.virtualBack hx (y := (⟨"com/example/sextant/sextant/ValueSet", "contains", "(I)Z"⟩ : MethodName)) (z := (⟨"com/example/sextant/sextant/ValueSet", "contains", "(I)Z"⟩ : MethodName)) hown (mvT hZ (hw _ (List.mem_of_getElem? (i := 13) rfl))) (mvT hZ (hw _ (List.mem_of_getElem? (i := 14) rfl))) (notFace_of_selects (args := #[]) (mvT hZ (hw _ (List.mem_of_getElem? (i := 16) rfl)))) (mvT hZ (hw _ (List.mem_of_getElem? (i := 16) rfl))) (mvT hZ (hw _ (List.mem_of_getElem? (i := 15) rfl))) (by decide) (backOf (W := 0) (rm3 l Z a0 hw [] b185 vv c189 kc189 (0 : Int32) [] (0 : Int64) T189.heap n0 f190 Fx189 Vx189 (fun hlt => absurd hlt (by rw [hkw.1]; exact own_mono kk (3 : Int32) (0 : Int32) hc97_213 (by decide)))) hZ (hw _ (List.mem_of_getElem? (i := 17) rfl)) (hw _ (List.mem_of_getElem? (i := 3) rfl)) (by decide) (by decide)) qa218 qc218 (g := (mkF m 152 #[.val (.long q1), .second, .val (.long q2), .second, .val (.long q3), .second, .val (.int p4), .val (.int p5), .val (.int p6), .val (.int (3 : Int32)), .val (.ref b176), .val (.ref b185), .val (.int vv), .val (.int kk), .val (.int bb), .val (.int (0 : Int32)), .unset, .unset] [(.int vv), (.ref b185)])) rfl (by rw [hml]; rfl) (Steps.refl _) (argsL := [(.int vv)]) (rest := []) (lenOf pd_3 rfl) rfl (by show 2 * 0 + _ ≤ _; exact Nat.le_of_eq rfl) (hb hby at_152) (fun _ _ => ⟨rfl, rfl, (by decide : 3 + 0 ≤ _), (by decide : 6 + 0 ≤ _)⟩)
        dsimp only [Pt.U, Pt.locs, Pt.cells, Pt.slots] at X218 l218 y218 z218 st218 hQ218
        subst l218 y218 z218
        obtain ⟨rfl, Nq218, eq218⟩ := hQ218
        have N218 := Fr.app N189 Nq218
        refine EndsQ.go (fun t k => st218.trans k) ?_
        show EndsQ _ _ _ _ _ _ _ (T218.setTop (mkF m 155 #[.val (.long q1), .second, .val (.long q2), .second, .val (.long q3), .second, .val (.int p4), .val (.int p5), .val (.int p6), .val (.int (3 : Int32)), .val (.ref b176), .val (.ref b185), .val (.int vv), .val (.int kk), .val (.int bb), .val (.int (0 : Int32)), .unset, .unset] [(.int (own_has vv (0 : Int32) (0 : Int64)))]))
        refine EndsQ.go (b := T218.setTop (mkF m 165 #[.val (.long q1), .second, .val (.long q2), .second, .val (.long q3), .second, .val (.int p4), .val (.int p5), .val (.int p6), .val (.int (3 : Int32)), .val (.ref b176), .val (.ref b185), .val (.int vv), .val (.int kk), .val (.int bb), .val (.int (0 : Int32)), .unset, .unset] [(.int (1 : Int32))])) (fun t k => ?_) ?_
        · show Steps p.tables e below (T218.setTop (mkF m 155 #[.val (.long q1), .second, .val (.long q2), .second, .val (.long q3), .second, .val (.int p4), .val (.int p5), .val (.int p6), .val (.int (3 : Int32)), .val (.ref b176), .val (.ref b185), .val (.int vv), .val (.int kk), .val (.int bb), .val (.int (0 : Int32)), .unset, .unset] [(.int (own_has vv (0 : Int32) (0 : Int64)))])) _
          refine XS.iload X218.here hx rfl (hb hby at_155) rfl ?_
          show Steps p.tables e below (T218.setTop (mkF m 157 #[.val (.long q1), .second, .val (.long q2), .second, .val (.long q3), .second, .val (.int p4), .val (.int p5), .val (.int p6), .val (.int (3 : Int32)), .val (.ref b176), .val (.ref b185), .val (.int vv), .val (.int kk), .val (.int bb), .val (.int (0 : Int32)), .unset, .unset] [(.int (0 : Int32)), (.int (own_has vv (0 : Int32) (0 : Int64)))])) _
          refine XS.icmpNo X218.here hx rfl (hb hby at_157) rfl (teq (own_hasA vv (0 : Int32) kk (0 : Int64) hkw.1 (own_mono kk (3 : Int32) (0 : Int32) hc97_213 (by decide)))).2 ?_
          show Steps p.tables e below (T218.setTop (mkF m 160 #[.val (.long q1), .second, .val (.long q2), .second, .val (.long q3), .second, .val (.int p4), .val (.int p5), .val (.int p6), .val (.int (3 : Int32)), .val (.ref b176), .val (.ref b185), .val (.int vv), .val (.int kk), .val (.int bb), .val (.int (0 : Int32)), .unset, .unset] [])) _
          refine XS.iconst X218.here hx rfl (hb hby at_160) ?_
          show Steps p.tables e below (T218.setTop (mkF m 161 #[.val (.long q1), .second, .val (.long q2), .second, .val (.long q3), .second, .val (.int p4), .val (.int p5), .val (.int p6), .val (.int (3 : Int32)), .val (.ref b176), .val (.ref b185), .val (.int vv), .val (.int kk), .val (.int bb), .val (.int (0 : Int32)), .unset, .unset] [(.int (1 : Int32))])) _
          refine XS.goto X218.here hx rfl (pc0 := 161) (pc' := 165) rfl (hb hby at_161) (by decide) (by decide) ?_
          show Steps p.tables e below (T218.setTop (mkF m 165 #[.val (.long q1), .second, .val (.long q2), .second, .val (.long q3), .second, .val (.int p4), .val (.int p5), .val (.int p6), .val (.int (3 : Int32)), .val (.ref b176), .val (.ref b185), .val (.int vv), .val (.int kk), .val (.int bb), .val (.int (0 : Int32)), .unset, .unset] [(.int (1 : Int32))])) _
          exact k
        refine EndsQ.retN X218 hx Bd.notSynchronized (t := .boolean) Bd.returns (by simp) (hb hby at_165) (by decide) (by decide) ?_
        show Q0 Z q1 q2 q3 p4 p5 p6 h0 n0 (some (.int (nar .boolean (1 : Int32)))) T218.heap _
        rw [eq218]
        exact ⟨rfl, N218⟩
set_option maxRecDepth 65536 in
set_option maxHeartbeats 40000000 in
theorem comes_1 {Post : Tables → Env → Array Value → State → Outcome → State → Prop} (hpost : ∀ tb e args s v u, (limb_1_1.after args s (.returned v) u = true ∧ limb_1_2.after args s (.returned v) u = true ∧ True) → FrameEnd s (.returned v) u (Jvm.fieldLocs frame_1_writes args s ++ Jvm.arrayLocs frame_1_arrays args s ++ Jvm.staticLocs frame_1_statics s) 16 128 → Post tb e args s (.returned v) u) :
    ArmFor flags0 classFile x code maxLocals ret World_1 tables_1 room_1 Calls_1 rest_1 Pre_1 Post := by
  intro l hfl _ _ p e ha hc hk s m args below hf hA hF happ hP
  obtain ⟨hcalls, hrest, hpre⟩ := hP
  obtain ⟨-, -, -, hnamed, -, -, -, hat⟩ := (Spec.applies_iff hf).mp happ
  obtain ⟨hg, hn⟩ := and_e (Cond.before_iff.mp (show (Jvm.Cond.and given_1 narrow_1).before args s = true from hpre))
  obtain ⟨g1a, g1b⟩ := and_e hg
  obtain ⟨g2a, g2b⟩ := and_e g1b
  obtain ⟨g3a, g3b⟩ := and_e g2b
  obtain ⟨g4a, g4b⟩ := and_e g3b
  obtain ⟨g5a, g5b⟩ := and_e g4b
  obtain ⟨g6a, g6b⟩ := and_e g5b
  obtain ⟨w0, w1, w2, w3, w4, w5, rfl⟩ : ∃ w0 w1 w2 w3 w4 w5 : Value, args = #[w0, w1, w2, w3, w4, w5] := by
    have hs : args.size = 6 := by simpa [Cond.value, given_1] using g1a
    obtain ⟨L⟩ := args
    match L, hs with
    | [w0, w1, w2, w3, w4, w5], _ => exact ⟨w0, w1, w2, w3, w4, w5, rfl⟩
  have hw := fun d (hd : d ∈ tables_1) => atoms_spec (ws := Jvm.Cond.code x code maxLocals ret :: tables_1) hat d (List.mem_cons_of_mem _ hd)
  have hfit : Fit s := fun {y c} hc i hi => by
    obtain ⟨ha, rfl⟩ := Array.getElem?_eq_some_iff.mp hc
    have q := List.all_eq_true.mp ((Array.all_eq_true_iff_forall_mem.mp hF) _ (Array.getElem_mem ha)) i (List.mem_range.mpr hi)
    simpa [Array.getElem?_eq_getElem hi] using q
  obtain ⟨i0, ei0⟩ := isL_v g2a
  obtain rfl : w0 = (.long i0) := Option.some.inj ei0
  obtain ⟨i1, ei1⟩ := isL_v g3a
  obtain rfl : w1 = (.long i1) := Option.some.inj ei1
  obtain ⟨i2, ei2⟩ := isL_v g4a
  obtain rfl : w2 = (.long i2) := Option.some.inj ei2
  obtain ⟨i3, ei3⟩ := is_v g5a
  obtain rfl : w3 = (.int i3) := Option.some.inj ei3
  obtain ⟨i4, ei4⟩ := is_v g6a
  obtain rfl : w4 = (.int i4) := Option.some.inj ei4
  obtain ⟨i5, ei5⟩ := is_v g6b
  obtain rfl : w5 = (.int i5) := Option.some.inj ei5
  obtain ⟨n, o, h1, h2, h3, _, L, rfl, ⟨rfl, N⟩, hq⟩ := rm0 l s _ hw tables_1 i0 i1 i2 i3 i4 i5 s.heap s.heap.size (Nat.le_refl _) p e ha hc hk s m _ below hf ((Spec.applies_iff_loose hf).mp happ).1 ⟨rfl, State.Warmed39.refl s, rfl⟩ trivial
  refine ⟨n, _, h1, h2, h3, hpost _ _ _ _ _ _ ⟨Cond.after_iff.mpr rfl, Cond.after_iff.mpr (eq_i res_at (Term.int_eval (1)) rfl), trivial⟩ ⟨hq.1, hq.2.1, (hq.2.2.sift fun y hy => Or.inr (N y hy)).mono (by decide) (by decide)⟩⟩
theorem main_1_1 : Claimed_1_1 := comes_1 fun _ _ _ _ _ _ h hF => ⟨h.1, hF⟩
theorem main_1_2 : Claimed_1_2 := comes_1 fun _ _ _ _ _ _ h hF => ⟨h.2.1, hF⟩
end Jvm.Pilot.@@N@@
namespace Jvm.Pilot.@@N@@
open Jvm Jvm.ClassFile Sem Op Lib Jvm.Free Jvm.Stand Jvm.Pilot.@@N@@.Jvm.D
/-! MADE BY PROGRAM (witnessworld.py) out of the Statement's table words and the real class files: 14 classes; the members and pool entries that the words name. The judged class is class 1, her method 1. -/
namespace start1
open Jvm.ClassFile
def u (s : String) : CpInfo := .utf8 (stringToUtf16 s)
/-- a pool by its gaps: so many unusable entries, then the entry; so many at the end -/
def gap : Nat → List CpInfo → List CpInfo
  | 0, r => r
  | n + 1, r => .unusable :: gap n r
def poolList (es : List (Nat × CpInfo)) (last : Nat) : List CpInfo := es.foldr (fun e r => gap e.1 (e.2 :: r)) (gap last [])
def pool (es : List (Nat × CpInfo)) (last : Nat) : Array CpInfo := ⟨poolList es last⟩
def fileOf (pool : Array CpInfo) (this : Nat) (attrs : Array Attribute := #[]) (ms : Array MethodInfo := #[]) (fl : Nat := 33) (sup : Nat := 0) (ifs : Array Nat := #[]) (fds : Array FieldInfo := #[]) : ClassFile where
  minorVersion := 0
  majorVersion := 65
  constantPool := pool
  accessFlags := fl
  thisClass := this
  superClass := sup
  interfaces := ifs
  fields := fds
  methods := ms
  attributes := attrs
def plain (name : String) (sup : Option ClassId) : Class where
  name := name
  kind := .ordinary
  loader := none
  accessFlags := 33
  super := sup
  interfaces := #[]
  cf := none
  fields := #[]
  methods := #[]
  instanceTypes := #[]
  staticTypes := #[]
  resolved := #[]
  callSites := []
  init := .initialized
  statics := none
  mirror := none

def pool0 : Array CpInfo := pool [(5, u "<init>"), (0, u "()V"), (1, .class_ 10), (1, u "java/lang/Object")] 113

def k0c0 : Code := { maxStack := 0, maxLocals := 1, code := object_method_1_code, exceptionTable := #[], attributes := #[] }
def k0m0 : Method := { name := "<init>", desc := "()V", sig := { parameters := [], returnType := none }, accessFlags := 1, code := some k0c0 }
/-- java/lang/Object -/
def k0 : Class := { plain "java/lang/Object" none with
  accessFlags := 33
  interfaces := #[]
  cf := some (fileOf pool0 8 #[] #[{ accessFlags := 1, nameIndex := 5, descriptorIndex := 6, attributes := #[] }] 33 0 #[] #[])
  fields := #[]
  methods := #[k0m0]
  instanceTypes := #[]
  staticTypes := #[]
  resolved := Array.replicate 124 none
  statics := none }

def pool1 : Array CpInfo := pool [(2, .class_ 4), (1, u "java/lang/Object"), (0, u "<init>"), (0, u "()V"), (0, .class_ 8), (0, u "com/example/sextant/sextant/ValueSet"), (0, .methodref 7 10), (0, .nameAndType 5 11), (0, u "([J)V"), (0, .integer 2147483647), (0, .methodref 7 14), (0, .nameAndType 15 16), (0, u "contains"), (0, u "(I)Z"), (0, .class_ 18), (0, u "com/example/sextant/sextant/ValueSetContainsPinLaw"), (2, u "law"), (0, u "(JJJIII)Z")] 5

def k1m0 : Method := { name := "<init>", desc := "()V", sig := { parameters := [], returnType := none }, accessFlags := 2, code := none }
def k1c1 : Code := { maxStack := 5, maxLocals := 18, code := code, exceptionTable := #[], attributes := #[] }
def k1m1 : Method := { name := "law", desc := "(JJJIII)Z", sig := { parameters := [.long, .long, .long, .int, .int, .int], returnType := some .boolean }, accessFlags := 9, code := some k1c1 }
/-- com/example/sextant/sextant/ValueSetContainsPinLaw -/
def k1 : Class := { plain "com/example/sextant/sextant/ValueSetContainsPinLaw" (some 0) with
  accessFlags := 49
  interfaces := #[]
  cf := some (fileOf pool1 17 #[] #[{ accessFlags := 2, nameIndex := 5, descriptorIndex := 6, attributes := #[] }, { accessFlags := 9, nameIndex := 21, descriptorIndex := 22, attributes := #[] }] 49 2 #[] #[])
  fields := #[]
  methods := #[k1m0, k1m1]
  instanceTypes := #[]
  staticTypes := #[]
  resolved := Array.replicate 28 none
  statics := none }

def pool2 : Array CpInfo := pool [(1, .methodref 2 3), (0, .class_ 4), (0, .nameAndType 5 6), (0, u "java/lang/Object"), (0, u "<init>"), (0, u "()V"), (0, .methodref 8 9), (0, .class_ 10), (0, .nameAndType 11 12), (0, u "java/util/Arrays"), (0, u "copyOf"), (0, u "([JI)[J"), (0, .fieldref 14 15), (0, .class_ 16), (0, .nameAndType 17 18), (0, u "com/example/sextant/sextant/ValueSet"), (0, u "words"), (0, u "[J"), (49, u "NONE"), (0, u "([J)V"), (4, u "contains"), (0, u "(I)Z")] 6

def k2c0 : Code := { maxStack := 4, maxLocals := 3, code := prog_21_method_1_code, exceptionTable := #[], attributes := #[] }
def k2m0 : Method := { name := "<init>", desc := "([J)V", sig := { parameters := [(.array .long)], returnType := none }, accessFlags := 0, code := some k2c0 }
def k2c1 : Code := { maxStack := 4, maxLocals := 3, code := prog_21_method_2_code, exceptionTable := #[], attributes := #[] }
def k2m1 : Method := { name := "contains", desc := "(I)Z", sig := { parameters := [.int], returnType := some .boolean }, accessFlags := 0, code := some k2c1 }
/-- com/example/sextant/sextant/ValueSet -/
def k2 : Class := { plain "com/example/sextant/sextant/ValueSet" (some 0) with
  accessFlags := 48
  interfaces := #[]
  cf := some (fileOf pool2 14 #[] #[{ accessFlags := 0, nameIndex := 5, descriptorIndex := 69, attributes := #[] }, { accessFlags := 0, nameIndex := 74, descriptorIndex := 75, attributes := #[] }] 48 2 #[] #[{ accessFlags := 26, nameIndex := 68, descriptorIndex := 18, attributes := #[] }, { accessFlags := 18, nameIndex := 17, descriptorIndex := 18, attributes := #[] }])
  fields := #[{ name := "NONE", type := (.array .long), accessFlags := 26, slot := 0, constantValue := 0 }, { name := "words", type := (.array .long), accessFlags := 18, slot := 0, constantValue := 0 }]
  methods := #[k2m0, k2m1]
  instanceTypes := #[(.array .long)]
  staticTypes := #[(.array .long)]
  resolved := Array.replicate 82 none
  statics := none }

def pool3 : Array CpInfo := pool [(2, .class_ 4), (1, u "java/lang/Object"), (0, u "<init>"), (0, u "()V"), (7, .class_ 16), (1, u "java/util/Arrays"), (57, .class_ 76), (1, u "java/util/Arrays$NaturalOrder"), (36, .class_ 115), (1, u "java/util/Arrays$LegacyMergeSort"), (1, u "Z"), (32, .methodref 151 152), (0, .class_ 153), (0, .nameAndType 154 155), (0, u "java/lang/System"), (0, u "arraycopy"), (0, u "(Ljava/lang/Object;ILjava/lang/Object;II)V"), (146, u "copyOf"), (1, .methodref 305 306), (0, .class_ 307), (0, .nameAndType 308 309), (0, u "java/lang/Math"), (0, u "min"), (0, u "(II)I"), (65, .class_ 376), (0, u "java/util/Arrays$ArrayList"), (68, u "$assertionsDisabled"), (269, u "MIN_ARRAY_SORT_GRAN"), (0, u "I"), (2, u "INSERTIONSORT_THRESHOLD"), (152, u "([JI)[J"), (102, .class_ 976), (0, u "java/util/Arrays$ArrayItr")] 52

def k3m0 : Method := { name := "<init>", desc := "()V", sig := { parameters := [], returnType := none }, accessFlags := 2, code := none }
def k3c1 : Code := { maxStack := 6, maxLocals := 3, code := jdk_65_method_124_code, exceptionTable := #[], attributes := #[] }
def k3m1 : Method := { name := "copyOf", desc := "([JI)[J", sig := { parameters := [(.array .long), .int], returnType := some (.array .long) }, accessFlags := 9, code := some k3c1 }
/-- java/util/Arrays -/
def k3 : Class := { plain "java/util/Arrays" (some 0) with
  accessFlags := 49
  interfaces := #[]
  cf := some (fileOf pool3 14 #[.nestMembers #[975, 375, 113, 74]] #[{ accessFlags := 2, nameIndex := 5, descriptorIndex := 6, attributes := #[] }, { accessFlags := 9, nameIndex := 302, descriptorIndex := 872, attributes := #[] }] 49 2 #[] #[{ accessFlags := 26, nameIndex := 715, descriptorIndex := 716, attributes := #[] }, { accessFlags := 26, nameIndex := 719, descriptorIndex := 716, attributes := #[] }, { accessFlags := 4120, nameIndex := 445, descriptorIndex := 117, attributes := #[] }])
  fields := #[{ name := "MIN_ARRAY_SORT_GRAN", type := .int, accessFlags := 26, slot := 0, constantValue := 0 }, { name := "INSERTIONSORT_THRESHOLD", type := .int, accessFlags := 26, slot := 1, constantValue := 0 }, { name := "$assertionsDisabled", type := .boolean, accessFlags := 4120, slot := 2, constantValue := 0 }]
  methods := #[k3m0, k3m1]
  instanceTypes := #[]
  staticTypes := #[.int, .int, .boolean]
  resolved := Array.replicate 1029 none
  statics := none }

def pool4 : Array CpInfo := pool [(1, .class_ 2), (0, u "java/lang/Math"), (1, .class_ 6), (1, u "java/lang/Object"), (0, u "<init>"), (0, u "()V"), (89, .class_ 100), (1, u "java/lang/Math$RandomNumberGeneratorHolder"), (71, u "negativeZeroFloatBits"), (0, u "J"), (2, u "negativeZeroDoubleBits"), (24, u "min"), (43, u "$assertionsDisabled"), (0, u "Z"), (88, u "(II)I"), (2, u "twoToTheDoubleScaleDown"), (0, u "D"), (4, u "twoToTheDoubleScaleUp"), (9, u "E"), (3, u "PI"), (2, u "TAU"), (2, u "DEGREES_TO_RADIANS"), (0, u "RADIANS_TO_DEGREES")] 94

def k4m0 : Method := { name := "<init>", desc := "()V", sig := { parameters := [], returnType := none }, accessFlags := 2, code := none }
def k4c1 : Code := { maxStack := 2, maxLocals := 2, code := jdk_29_method_69_code, exceptionTable := #[], attributes := #[] }
def k4m1 : Method := { name := "min", desc := "(II)I", sig := { parameters := [.int, .int], returnType := some .int }, accessFlags := 9, code := some k4c1 }
/-- java/lang/Math -/
def k4 : Class := { plain "java/lang/Math" (some 0) with
  accessFlags := 49
  interfaces := #[]
  cf := some (fileOf pool4 1 #[.nestMembers #[98]] #[{ accessFlags := 2, nameIndex := 7, descriptorIndex := 8, attributes := #[] }, { accessFlags := 9, nameIndex := 201, descriptorIndex := 335, attributes := #[] }] 49 4 #[] #[{ accessFlags := 25, nameIndex := 354, descriptorIndex := 339, attributes := #[] }, { accessFlags := 25, nameIndex := 358, descriptorIndex := 339, attributes := #[] }, { accessFlags := 25, nameIndex := 361, descriptorIndex := 339, attributes := #[] }, { accessFlags := 26, nameIndex := 364, descriptorIndex := 339, attributes := #[] }, { accessFlags := 26, nameIndex := 365, descriptorIndex := 339, attributes := #[] }, { accessFlags := 26, nameIndex := 172, descriptorIndex := 173, attributes := #[] }, { accessFlags := 26, nameIndex := 176, descriptorIndex := 173, attributes := #[] }, { accessFlags := 8, nameIndex := 344, descriptorIndex := 339, attributes := #[] }, { accessFlags := 8, nameIndex := 338, descriptorIndex := 339, attributes := #[] }, { accessFlags := 4120, nameIndex := 245, descriptorIndex := 246, attributes := #[] }])
  fields := #[{ name := "E", type := .double, accessFlags := 25, slot := 0, constantValue := 0 }, { name := "PI", type := .double, accessFlags := 25, slot := 1, constantValue := 0 }, { name := "TAU", type := .double, accessFlags := 25, slot := 2, constantValue := 0 }, { name := "DEGREES_TO_RADIANS", type := .double, accessFlags := 26, slot := 3, constantValue := 0 }, { name := "RADIANS_TO_DEGREES", type := .double, accessFlags := 26, slot := 4, constantValue := 0 }, { name := "negativeZeroFloatBits", type := .long, accessFlags := 26, slot := 5, constantValue := 0 }, { name := "negativeZeroDoubleBits", type := .long, accessFlags := 26, slot := 6, constantValue := 0 }, { name := "twoToTheDoubleScaleUp", type := .double, accessFlags := 8, slot := 7, constantValue := 0 }, { name := "twoToTheDoubleScaleDown", type := .double, accessFlags := 8, slot := 8, constantValue := 0 }, { name := "$assertionsDisabled", type := .boolean, accessFlags := 4120, slot := 9, constantValue := 0 }]
  methods := #[k4m0, k4m1]
  instanceTypes := #[]
  staticTypes := #[.double, .double, .double, .double, .double, .long, .long, .double, .double, .boolean]
  resolved := Array.replicate 460 none
  statics := none }

def pool5 : Array CpInfo := pool [(2, .class_ 4), (1, u "java/lang/Object"), (0, u "<init>"), (0, u "()V"), (1, .class_ 10), (1, u "java/lang/System"), (0, u "allowSecurityManager"), (0, u "I"), (16, u "cons"), (0, u "Ljava/io/Console;"), (77, .class_ 110), (1, u "java/lang/System$CallersHolder"), (43, u "initialErrStream"), (0, u "Ljava/io/PrintStream;"), (19, u "security"), (0, u "Ljava/lang/SecurityManager;"), (31, .class_ 209), (0, u "java/lang/System$1"), (7, u "props"), (0, u "Ljava/util/Properties;"), (2, u "lineSeparator"), (0, u "Ljava/lang/String;"), (96, .class_ 321), (1, u "java/lang/System$LoggerFinder"), (5, .class_ 328), (0, u "java/lang/System$Logger"), (67, u "err"), (2, u "out"), (91, u "notSupportedJnuEncoding"), (15, u "in"), (17, u "initialIn"), (0, u "Ljava/io/InputStream;"), (35, u "bootLayer"), (0, u "Ljava/lang/ModuleLayer;"), (99, .class_ 664), (0, u "java/lang/System$2"), (9, u "NEVER"), (2, u "MAYBE"), (49, u "arraycopy"), (0, u "(Ljava/lang/Object;ILjava/lang/Object;II)V"), (72, .class_ 802), (0, u "java/lang/System$Logger$Level")] 31

def k5m0 : Method := { name := "<init>", desc := "()V", sig := { parameters := [], returnType := none }, accessFlags := 2, code := none }
def k5m1 : Method := { name := "arraycopy", desc := "(Ljava/lang/Object;ILjava/lang/Object;II)V", sig := { parameters := [(.object "java/lang/Object"), .int, (.object "java/lang/Object"), .int, .int], returnType := none }, accessFlags := 265, code := none }
/-- java/lang/System -/
def k5 : Class := { plain "java/lang/System" (some 0) with
  accessFlags := 49
  interfaces := #[]
  cf := some (fileOf pool5 8 #[.nestMembers #[319, 327, 801, 108, 663, 208]] #[{ accessFlags := 2, nameIndex := 5, descriptorIndex := 6, attributes := #[] }, { accessFlags := 265, nameIndex := 727, descriptorIndex := 728, attributes := #[] }] 49 2 #[] #[{ accessFlags := 25, nameIndex := 507, descriptorIndex := 526, attributes := #[] }, { accessFlags := 25, nameIndex := 399, descriptorIndex := 155, attributes := #[] }, { accessFlags := 25, nameIndex := 396, descriptorIndex := 155, attributes := #[] }, { accessFlags := 10, nameIndex := 525, descriptorIndex := 526, attributes := #[] }, { accessFlags := 26, nameIndex := 674, descriptorIndex := 12, attributes := #[] }, { accessFlags := 26, nameIndex := 677, descriptorIndex := 12, attributes := #[] }, { accessFlags := 10, nameIndex := 11, descriptorIndex := 12, attributes := #[] }, { accessFlags := 74, nameIndex := 175, descriptorIndex := 176, attributes := #[] }, { accessFlags := 10, nameIndex := 491, descriptorIndex := 222, attributes := #[] }, { accessFlags := 74, nameIndex := 29, descriptorIndex := 30, attributes := #[] }, { accessFlags := 74, nameIndex := 154, descriptorIndex := 155, attributes := #[] }, { accessFlags := 10, nameIndex := 217, descriptorIndex := 218, attributes := #[] }, { accessFlags := 10, nameIndex := 221, descriptorIndex := 222, attributes := #[] }, { accessFlags := 8, nameIndex := 562, descriptorIndex := 563, attributes := #[] }])
  fields := #[{ name := "in", type := (.object "java/io/InputStream"), accessFlags := 25, slot := 0, constantValue := 0 }, { name := "out", type := (.object "java/io/PrintStream"), accessFlags := 25, slot := 1, constantValue := 0 }, { name := "err", type := (.object "java/io/PrintStream"), accessFlags := 25, slot := 2, constantValue := 0 }, { name := "initialIn", type := (.object "java/io/InputStream"), accessFlags := 10, slot := 3, constantValue := 0 }, { name := "NEVER", type := .int, accessFlags := 26, slot := 4, constantValue := 0 }, { name := "MAYBE", type := .int, accessFlags := 26, slot := 5, constantValue := 0 }, { name := "allowSecurityManager", type := .int, accessFlags := 10, slot := 6, constantValue := 0 }, { name := "security", type := (.object "java/lang/SecurityManager"), accessFlags := 74, slot := 7, constantValue := 0 }, { name := "notSupportedJnuEncoding", type := (.object "java/lang/String"), accessFlags := 10, slot := 8, constantValue := 0 }, { name := "cons", type := (.object "java/io/Console"), accessFlags := 74, slot := 9, constantValue := 0 }, { name := "initialErrStream", type := (.object "java/io/PrintStream"), accessFlags := 74, slot := 10, constantValue := 0 }, { name := "props", type := (.object "java/util/Properties"), accessFlags := 10, slot := 11, constantValue := 0 }, { name := "lineSeparator", type := (.object "java/lang/String"), accessFlags := 10, slot := 12, constantValue := 0 }, { name := "bootLayer", type := (.object "java/lang/ModuleLayer"), accessFlags := 8, slot := 13, constantValue := 0 }]
  methods := #[k5m0, k5m1]
  instanceTypes := #[]
  staticTypes := #[(.object "java/io/InputStream"), (.object "java/io/PrintStream"), (.object "java/io/PrintStream"), (.object "java/io/InputStream"), .int, .int, .int, (.object "java/lang/SecurityManager"), (.object "java/lang/String"), (.object "java/io/Console"), (.object "java/io/PrintStream"), (.object "java/util/Properties"), (.object "java/lang/String"), (.object "java/lang/ModuleLayer")]
  resolved := Array.replicate 834 none
  statics := none }

def pool6 : Array CpInfo := pool [(1, u "java/lang/Cloneable"), (0, .class_ 1), (0, u "java/lang/Object"), (0, .class_ 3)] 3

/-- java/lang/Cloneable -/
def k6 : Class := { plain "java/lang/Cloneable" (some 0) with
  accessFlags := 1537
  interfaces := #[]
  cf := some (fileOf pool6 2 #[] #[] 1537 4 #[] #[])
  fields := #[]
  methods := #[]
  instanceTypes := #[]
  staticTypes := #[]
  resolved := Array.replicate 8 none
  statics := none }

def pool7 : Array CpInfo := pool [(1, u "java/io/Serializable"), (0, .class_ 1), (0, u "java/lang/Object"), (0, .class_ 3)] 3

/-- java/io/Serializable -/
def k7 : Class := { plain "java/io/Serializable" (some 0) with
  accessFlags := 1537
  interfaces := #[]
  cf := some (fileOf pool7 2 #[] #[] 1537 4 #[] #[])
  fields := #[]
  methods := #[]
  instanceTypes := #[]
  staticTypes := #[]
  resolved := Array.replicate 8 none
  statics := none }

/-- the primitive byte -/
def k8 : Class := { plain "byte" none with kind := .primitive 'B', accessFlags := 0x411 }
/-- [B -/
def k9 : Class := { plain "[B" (some 0) with kind := .array 8 .byte, interfaces := #[6, 7], accessFlags := 1041 }

/-- the primitive int -/
def k10 : Class := { plain "int" none with kind := .primitive 'I', accessFlags := 0x411 }
/-- [I -/
def k11 : Class := { plain "[I" (some 0) with kind := .array 10 .int, interfaces := #[6, 7], accessFlags := 1041 }

/-- the primitive long -/
def k12 : Class := { plain "long" none with kind := .primitive 'J', accessFlags := 0x411 }
/-- [J -/
def k13 : Class := { plain "[J" (some 0) with kind := .array 12 .long, interfaces := #[6, 7], accessFlags := 1041 }

def heap : Heap := #[]
def classes : Array Class := #[k0, k1, k2, k3, k4, k5, k6, k7, k8, k9, k10, k11, k12, k13]
def interned : List (Array UInt16 × Addr) := []
def slotsUsed : Nat := 0
def theMethod : MethodId := ⟨1, 1⟩
def args0 : Array Value := #[.long 5, .long 6, .long 7, .int 8, .int 9, .int 10]
def aboutOver (below : List Frame) : State where
  vm := { classes := classes, interned := interned.toArray }
  heap := heap
  slotsUsed := slotsUsed
  threads := #[{ frames := .invoking theMethod args0 :: below }]
def below0 : List Frame := [.native { method := ⟨0, 0⟩, args := #[] }]
def about1 : State := aboutOver below0
def p0 : Program := .bare "" "" ""
def e0 : Env := launch0.env 0 0 0
theorem w_frames : about1.frames = Frame.invoking theMethod args0 :: below0 := rfl
set_option maxRecDepth 65536 in
theorem w_args : argsFit about1.vm theMethod args0 = true := by decide +kernel
set_option maxRecDepth 65536 in
theorem w_heap : heapFits about1 = true := by decide +kernel
set_option maxRecDepth 65536 in
theorem w_runnable : about1.curStatus? = some .runnable := by decide +kernel
set_option maxRecDepth 65536 in
theorem w_alone : about1.alone = true := by decide +kernel
set_option maxRecDepth 65536 in
theorem w_named : about1.methodNamed? x = some theMethod := by decide +kernel
set_option maxRecDepth 65536 in
theorem w_hears : about1.hears theMethod below0 = true := by decide +kernel
set_option maxRecDepth 65536 in
theorem w_ripe : about1.ripe theMethod args0 below0 = true := by decide +kernel
theorem w_running : about1.status = .running := rfl
set_option maxRecDepth 65536 in
theorem w_room : about1.hasRoom e0.platform room_1 = true :=
  launch0.hasRoom_least _ room_1 (by decide +kernel) (by decide +kernel) (by decide +kernel) (by decide +kernel) (by decide +kernel) (by decide +kernel)
theorem allAtoms_all (ts : List Jvm.Cond) (a : Array Jvm.Value) (st : Jvm.State) : (allAtoms ts).before a st = ts.all (fun c => c.before a st) := by
  induction ts with
  | nil => rfl
  | cons c t ih =>
    show (Jvm.Cond.and c (allAtoms t)).before a st = _
    rw [Jvm.Cond.before_and, ih, List.all_cons]
def words1 : List Jvm.Cond := Jvm.Cond.code x code maxLocals ret :: tables_1
/-- a 'code' word, met by the world's own term for the bytes: nothing is compared byte by byte -/
theorem code_word {y : MethodName} {bytes : ByteArray} {mx : Nat} {rt : Option FieldType} {a : Array Value} {s : State} {m : MethodId} {meth : Method} {c : Code} (h1 : s.methodNamed? y = some m) (h2 : s.vm.method? m = some meth) (h3 : meth.code = some c) (h4 : c.code = bytes)
    (h5 : (c.maxLocals == mx && c.exceptionTable.isEmpty && decide (c.maxStack ≤ mostOperands) && decide (meth.sig.returnType = rt) && !meth.locks && decide (parseMethodDescriptor y.desc = some meth.sig)) = true) : (Jvm.Cond.code y bytes mx rt).before a s = true := by
  simp only [Bool.and_eq_true, beq_iff_eq, Bool.not_eq_true', decide_eq_true_eq] at h5
  obtain ⟨⟨⟨⟨⟨g1, g2⟩, g3⟩, g4⟩, g5⟩, g6⟩ := h5
  simp [Cond.before, Cond.holds, Cond.value, h1, h2, h3, h4, g1, g2, g3, g4, g5, g6]
def isCode : Jvm.Cond → Bool
  | .code _ _ _ _ => true
  | _ => false
theorem all_split {L : List Jvm.Cond} {P : Jvm.Cond → Bool} (h1 : L.all (fun c => isCode c || P c) = true) (h2 : ∀ c ∈ L.filter isCode, P c = true) : L.all P = true := by
  refine List.all_eq_true.mpr fun c hc => ?_
  have h := List.all_eq_true.mp h1 c hc
  rcases Bool.eq_false_or_eq_true (isCode c) with hi | hi
  · exact h2 c (List.mem_filter.mpr ⟨hc, hi⟩)
  · simpa [hi] using h
set_option maxRecDepth 65536 in
theorem w_c0 : (Jvm.Cond.code x code maxLocals ret).before args0 about1 = true := code_word (m := ⟨1, 1⟩) (meth := k1m1) (c := k1c1) (by decide +kernel) rfl rfl rfl (by decide +kernel)
set_option maxRecDepth 65536 in
theorem w_c1 : (Jvm.Cond.code ({ cls := "com/example/sextant/sextant/ValueSet", name := "<init>", desc := "([J)V" } : Jvm.MethodName) prog_21_method_1_code (3 : Nat) (Option.none : Option Jvm.ClassFile.FieldType)).before args0 about1 = true := code_word (m := ⟨2, 0⟩) (meth := k2m0) (c := k2c0) (by decide +kernel) rfl rfl rfl (by decide +kernel)
set_option maxRecDepth 65536 in
theorem w_c2 : (Jvm.Cond.code ({ cls := "java/lang/Object", name := "<init>", desc := "()V" } : Jvm.MethodName) object_method_1_code (1 : Nat) (Option.none : Option Jvm.ClassFile.FieldType)).before args0 about1 = true := code_word (m := ⟨0, 0⟩) (meth := k0m0) (c := k0c0) (by decide +kernel) rfl rfl rfl (by decide +kernel)
set_option maxRecDepth 65536 in
theorem w_c3 : (Jvm.Cond.code ({ cls := "com/example/sextant/sextant/ValueSet", name := "contains", desc := "(I)Z" } : Jvm.MethodName) prog_21_method_2_code (3 : Nat) (Option.some Jvm.ClassFile.FieldType.boolean)).before args0 about1 = true := code_word (m := ⟨2, 1⟩) (meth := k2m1) (c := k2c1) (by decide +kernel) rfl rfl rfl (by decide +kernel)
set_option maxRecDepth 65536 in
theorem w_c4 : (Jvm.Cond.code ({ cls := "java/util/Arrays", name := "copyOf", desc := "([JI)[J" } : Jvm.MethodName) jdk_65_method_124_code (3 : Nat) (Option.some (Jvm.ClassFile.FieldType.array Jvm.ClassFile.FieldType.long))).before args0 about1 = true := code_word (m := ⟨3, 1⟩) (meth := k3m1) (c := k3c1) (by decide +kernel) rfl rfl rfl (by decide +kernel)
set_option maxRecDepth 65536 in
theorem w_c5 : (Jvm.Cond.code ({ cls := "java/lang/Math", name := "min", desc := "(II)I" } : Jvm.MethodName) jdk_29_method_69_code (2 : Nat) (Option.some Jvm.ClassFile.FieldType.int)).before args0 about1 = true := code_word (m := ⟨4, 1⟩) (meth := k4m1) (c := k4c1) (by decide +kernel) rfl rfl rfl (by decide +kernel)
def codes1 : List Jvm.Cond := [Jvm.Cond.code x code maxLocals ret, Jvm.Cond.code ({ cls := "com/example/sextant/sextant/ValueSet", name := "<init>", desc := "([J)V" } : Jvm.MethodName) prog_21_method_1_code (3 : Nat) (Option.none : Option Jvm.ClassFile.FieldType), Jvm.Cond.code ({ cls := "java/lang/Object", name := "<init>", desc := "()V" } : Jvm.MethodName) object_method_1_code (1 : Nat) (Option.none : Option Jvm.ClassFile.FieldType), Jvm.Cond.code ({ cls := "com/example/sextant/sextant/ValueSet", name := "contains", desc := "(I)Z" } : Jvm.MethodName) prog_21_method_2_code (3 : Nat) (Option.some Jvm.ClassFile.FieldType.boolean), Jvm.Cond.code ({ cls := "java/util/Arrays", name := "copyOf", desc := "([JI)[J" } : Jvm.MethodName) jdk_65_method_124_code (3 : Nat) (Option.some (Jvm.ClassFile.FieldType.array Jvm.ClassFile.FieldType.long)), Jvm.Cond.code ({ cls := "java/lang/Math", name := "min", desc := "(II)I" } : Jvm.MethodName) jdk_29_method_69_code (2 : Nat) (Option.some Jvm.ClassFile.FieldType.int)]
set_option maxRecDepth 65536 in
theorem codes_eq : words1.filter isCode = codes1 := rfl
theorem w_codes : ∀ c ∈ words1.filter isCode, c.before args0 about1 = true := by
  rw [codes_eq]
  intro c hc
  simp only [codes1, List.mem_cons, List.not_mem_nil, or_false] at hc
  rcases hc with rfl | rfl | rfl | rfl | rfl | rfl
  · exact w_c0
  · exact w_c1
  · exact w_c2
  · exact w_c3
  · exact w_c4
  · exact w_c5
set_option maxRecDepth 65536 in
theorem w_t1 : (words1.take 24).all (fun c => isCode c || c.before args0 about1) = true := by decide +kernel
set_option maxRecDepth 65536 in
theorem w_t2 : (words1.drop 24).all (fun c => isCode c || c.before args0 about1) = true := by decide +kernel
theorem w_tables : (allAtoms (Jvm.Cond.code x code maxLocals ret :: tables_1)).before args0 about1 = true := by
  rw [allAtoms_all]
  show words1.all (fun c => c.before args0 about1) = true
  refine all_split ?_ w_codes
  rw [← List.take_append_drop 24 words1, List.all_append, w_t1, w_t2]
  rfl
set_option maxRecDepth 65536 in
theorem w_case : (Jvm.Cond.and given_1 narrow_1).before args0 about1 = true := by decide +kernel
theorem w_applies : (headSpec (Jvm.Cond.code x code maxLocals ret :: tables_1) room_1).applies x e0.platform about1 = true :=
  (Spec.applies_iff w_frames).mpr ⟨w_running, w_runnable, w_alone, w_named, w_hears, w_ripe, w_room, w_tables⟩
theorem atStart : AtStart classFile x code maxLocals ret World_1 tables_1 room_1 Calls_1 rest_1 Pre_1 launch0 p0 e0 about1 theMethod args0 below0 :=
  ⟨lists_1, trivial, launch0.admits_env _ _ _, launch0.least_env, fairChoices_fair.cas, fairChoices_fair.clock, w_frames, w_args, w_heap, w_applies, trivial, trivial, w_case⟩
end start1
theorem witness_1 : WitnessClaimed_1 := ⟨start1.p0, start1.e0, start1.about1, start1.theMethod, start1.args0, start1.below0, start1.atStart⟩
end Jvm.Pilot.@@N@@
