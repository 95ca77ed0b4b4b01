import JvmDerived
import JvmDerived.Pilot.@@N@@Statement
import JvmDerived.Pilot.@@N@@Code
set_option linter.unusedVariables false
set_option linter.unusedSimpArgs false
namespace Jvm.RoadKit
open Sem ClassFile Op Lib Jvm.Stand Jvm.Free Jvm.LawKit
section OwnKit
variable {p : Program} {l : Launch} {e : Env} {R : Room} {s : State} {m : MethodId} {args : Array Value} {below : List Frame} {meth : Method} {c : Code} {T : State} {locs : List Loc} {cells slots : Nat}
def EndsQ (tb : Tables) (e : Env) (below : List Frame) (s : State) (Qv : Option Value → Heap → List Loc → Prop) (rc rs : Nat) (st : State) : Prop :=
  ∃ s₂ o, Steps tb e below st s₂ ∧ s₂.status = .running ∧ Ended s₂ below o ∧ ∃ v L, o = .returned v ∧ Qv v s₂.heap L ∧ FrameEnd s o s₂ L rc rs
theorem EndsQ.go {tb : Tables} {Qv : Option Value → Heap → List Loc → Prop} {rc rs : Nat} {a b : State} (k : ∀ t, Steps tb e below b t → Steps tb e below a t) (h : EndsQ tb e below s Qv rc rs b) : EndsQ tb e below s Qv rc rs a := by
  obtain ⟨s₂, o, h1, h2⟩ := h
  exact ⟨s₂, o, k _ h1, h2⟩
theorem EndsQ.out (X : Stand p l e R s m args below meth c T locs cells slots) (hlk : meth.locks = false) {Qv : Option Value → Heap → List Loc → Prop} {rc rs : Nat} {v : Option Value} {st : State} (hv : meth.sig.returnType = none → v = none)
    (hs : ∀ fs, (∀ (f : JFrame) (acts : List Action), f.method = m → f.locked = none → f.entered = [] → (doReturn e (T.setTop f) acts v).1 = T.setFrames fs) → Steps p.tables e below st (T.setFrames fs))
    (h1 : cells ≤ rc) (h2 : slots ≤ rs) (hq : Qv v T.heap locs) : EndsQ p.tables e below s Qv rc rs st := by
  obtain ⟨fs, hr, hrun, hended, hW, hsame⟩ := X.leave (v := v) hv hlk
  exact ⟨_, _, hs fs hr, hrun, hended, _, _, rfl, hq, ⟨_, rfl⟩, hW, hsame.mono h1 h2⟩
theorem EndsQ.retI (X : Stand p l e R s m args below meth c T locs cells slots) (hx : p.tables.exec = Jvm.exec) (hlk : meth.locks = false) {Qv : Option Value → Heap → List Loc → Prop} {rc rs pc : Nat} {Ls : Array Slot} {z : Int32} {rest : List Value} (hret : meth.sig.returnType = some .int) (hd : decode c.code pc = .ok (.ireturn, 1))
    (h1 : cells ≤ rc) (h2 : slots ≤ rs) (hq : Qv (some (.int z)) T.heap locs) : EndsQ p.tables e below s Qv rc rs (T.setTop (mkF m pc Ls (.int z :: rest))) := by
  refine EndsQ.out X hlk (v := some (.int z)) (fun h => by rw [hret] at h; cases h) (fun fs hr => ?_) h1 h2 hq
  exact retOut X hx hret rfl (Or.inl ⟨rfl, Or.inl rfl, z, rfl⟩) hd hr
theorem EndsQ.retJ (X : Stand p l e R s m args below meth c T locs cells slots) (hx : p.tables.exec = Jvm.exec) (hlk : meth.locks = false) {Qv : Option Value → Heap → List Loc → Prop} {rc rs pc : Nat} {Ls : Array Slot} {z : Int64} {rest : List Value} (hret : meth.sig.returnType = some .long) (hd : decode c.code pc = .ok (.lreturn, 1))
    (h1 : cells ≤ rc) (h2 : slots ≤ rs) (hq : Qv (some (.long z)) T.heap locs) : EndsQ p.tables e below s Qv rc rs (T.setTop (mkF m pc Ls (.long z :: rest))) := by
  refine EndsQ.out X hlk (v := some (.long z)) (fun h => by rw [hret] at h; cases h) (fun fs hr => ?_) h1 h2 hq
  exact retOut X hx hret rfl (Or.inr (Or.inl ⟨rfl, rfl, z, rfl⟩)) hd hr
theorem EndsQ.retA (X : Stand p l e R s m args below meth c T locs cells slots) (hx : p.tables.exec = Jvm.exec) (hlk : meth.locks = false) {Qv : Option Value → Heap → List Loc → Prop} {rc rs pc : Nat} {Ls : Array Slot} {w : Value} {t : FieldType} {rest : List Value} (hret : meth.sig.returnType = some t) (ht : t.isReference = true) (hw : w.isRef = true) (hn : narrow t w = w) (hd : decode c.code pc = .ok (.areturn, 1))
    (h1 : cells ≤ rc) (h2 : slots ≤ rs) (hq : Qv (some w) T.heap locs) : EndsQ p.tables e below s Qv rc rs (T.setTop (mkF m pc Ls (w :: rest))) := by
  refine EndsQ.out X hlk (v := some w) (fun h => by rw [hret] at h; cases h) (fun fs hr => ?_) h1 h2 hq
  exact retOut X hx hret hn (Or.inr (Or.inr (Or.inr (Or.inr ⟨rfl, ht, hw⟩)))) hd hr
theorem EndsQ.retN (X : Stand p l e R s m args below meth c T locs cells slots) (hx : p.tables.exec = Jvm.exec) (hlk : meth.locks = false) {Qv : Option Value → Heap → List Loc → Prop} {rc rs pc : Nat} {Ls : Array Slot} {z : Int32} {t : FieldType} {rest : List Value} (hret : meth.sig.returnType = some t) (ht : t = .boolean ∨ t = .byte ∨ t = .char ∨ t = .short) (hd : decode c.code pc = .ok (.ireturn, 1))
    (h1 : cells ≤ rc) (h2 : slots ≤ rs) (hq : Qv (some (.int (nar t z))) T.heap locs) : EndsQ p.tables e below s Qv rc rs (T.setTop (mkF m pc Ls (.int z :: rest))) := by
  refine EndsQ.out X hlk (v := some (.int (nar t z))) (fun h => by rw [hret] at h; cases h) (fun fs hr => ?_) h1 h2 hq
  exact Jvm.RoadKit.retN X hx hret ht hd hr
theorem EndsQ.retV (X : Stand p l e R s m args below meth c T locs cells slots) (hx : p.tables.exec = Jvm.exec) (hlk : meth.locks = false) {Qv : Option Value → Heap → List Loc → Prop} {rc rs pc : Nat} {Ls : Array Slot} (hret : meth.sig.returnType = none) (hd : decode c.code pc = .ok (.return_, 1))
    (h1 : cells ≤ rc) (h2 : slots ≤ rs) (hq : Qv none T.heap locs) : EndsQ p.tables e below s Qv rc rs (T.setTop (mkF m pc Ls [])) := by
  refine EndsQ.out X hlk (v := none) (fun _ => rfl) (fun fs hr => ?_) h1 h2 hq
  exact X.returnOut hx hret hd hr
end OwnKit
end Jvm.RoadKit
namespace Jvm.Pilot.@@N@@
open Jvm Jvm.ClassFile Sem Op Lib Jvm.Free Jvm.Stand Jvm.LawKit Jvm.RoadKit Bundle Jvm.Pilot.@@N@@.Jvm.D

def own_share (c : Int64) (b : Int32) : Int64 := (((c / (10000 : Int64)) * (b.toInt64)) + (((c - (c / (10000 : Int64)) * (10000 : Int64)) * (b.toInt64)) / (10000 : Int64)))
theorem own_c (q : Int64) : 0 ≤ ((q &&& (9223372036854775807 : Int64)) - ((q &&& (9223372036854775807 : Int64)) / (100000000000000000 : Int64)) * (100000000000000000 : Int64)).toInt ∧ ((q &&& (9223372036854775807 : Int64)) - ((q &&& (9223372036854775807 : Int64)) / (100000000000000000 : Int64)) * (100000000000000000 : Int64)).toInt < 100000000000000000 := by
  have h := c_maskL q (9223372036854775807 : Int64) 63 (by decide) rfl
  have h2 := (c_lrem (q &&& (9223372036854775807 : Int64)) (100000000000000000 : Int64) 100000000000000000 rfl).1 (by omega)
  rw [h2]
  omega
theorem own_b (p : Int32) : 0 ≤ ((p &&& (2147483647 : Int32)) % (10001 : Int32)).toInt ∧ ((p &&& (2147483647 : Int32)) % (10001 : Int32)).toInt ≤ 10000 := by
  have h := c_mask p (2147483647 : Int32) 31 (by decide) rfl
  have h2 := (c_irem (p &&& (2147483647 : Int32)) (10001 : Int32) 10001 rfl).1 (by omega)
  rw [h2]
  omega
theorem own_mulb {a b A B : Int} (h1 : 0 ≤ a) (h2 : a ≤ A) (h3 : 0 ≤ b) (h4 : b ≤ B) : 0 ≤ a * b ∧ a * b ≤ A * B :=
  ⟨Int.mul_nonneg h1 h3, Int.mul_le_mul h2 h4 h3 (Int.le_trans h1 h2)⟩
theorem own_mul64 (x y : Int64) (h1 : 0 ≤ x.toInt * y.toInt) (h2 : x.toInt * y.toInt < 9223372036854775808) : (x * y).toInt = x.toInt * y.toInt := by
  have a := c_lmul x y
  have b := rng64 (x * y)
  omega
theorem own_s (c : Int64) (b : Int32) (hc : 0 ≤ c.toInt ∧ c.toInt < 100000000000000000) (hb : 0 ≤ b.toInt ∧ b.toInt ≤ 10000) :
    0 ≤ (own_share c b).toInt ∧ (own_share c b).toInt ≤ 200000000000000000 ∧ 0 ≤ c.toInt * b.toInt - 10000 * (own_share c b).toInt ∧ c.toInt * b.toInt - 10000 * (own_share c b).toInt ≤ 9999 := by
  have hB : b.toInt64.toInt = b.toInt := c_i2l b
  have e1 : (c / (10000 : Int64)).toInt = c.toInt / 10000 := (c_ldiv c (10000 : Int64) 10000 rfl (by decide)).1 hc.1
  have e2 : (c - (c / (10000 : Int64)) * (10000 : Int64)).toInt = c.toInt % 10000 := (c_lrem c (10000 : Int64) 10000 rfl).1 hc.1
  have A := own_mulb (show 0 ≤ c.toInt / 10000 by omega) (show c.toInt / 10000 ≤ 10000000000000 by omega) hb.1 hb.2
  have B := own_mulb (show 0 ≤ c.toInt % 10000 by omega) (show c.toInt % 10000 ≤ 10000 by omega) hb.1 hb.2
  have m1 : ((c / (10000 : Int64)) * b.toInt64).toInt = (c.toInt / 10000) * b.toInt := by
    have := own_mul64 (c / (10000 : Int64)) b.toInt64 (by rw [e1, hB]; omega) (by rw [e1, hB]; omega)
    rw [this, e1, hB]
  have m2 : ((c - (c / (10000 : Int64)) * (10000 : Int64)) * b.toInt64).toInt = (c.toInt % 10000) * b.toInt := by
    have := own_mul64 (c - (c / (10000 : Int64)) * (10000 : Int64)) b.toInt64 (by rw [e2, hB]; omega) (by rw [e2, hB]; omega)
    rw [this, e2, hB]
  have m3 : (((c - (c / (10000 : Int64)) * (10000 : Int64)) * b.toInt64) / (10000 : Int64)).toInt = ((c.toInt % 10000) * b.toInt) / 10000 := by
    rw [(c_ldiv _ (10000 : Int64) 10000 rfl (by decide)).1 (by rw [m2]; omega), m2]
  have s1 := c_ladd ((c / (10000 : Int64)) * b.toInt64) (((c - (c / (10000 : Int64)) * (10000 : Int64)) * b.toInt64) / (10000 : Int64))
  have s2 := rng64 (((c / (10000 : Int64)) * b.toInt64) + (((c - (c / (10000 : Int64)) * (10000 : Int64)) * b.toInt64) / (10000 : Int64)))
  rw [m1, m3] at s1
  have d : c.toInt * b.toInt = 10000 * ((c.toInt / 10000) * b.toInt) + (c.toInt % 10000) * b.toInt := by
    rw [← Int.mul_assoc, ← Int.add_mul, Int.mul_ediv_add_emod]
  unfold own_share
  rw [d]
  generalize (c.toInt / 10000) * b.toInt = u at *
  generalize (c.toInt % 10000) * b.toInt = w at *
  omega
theorem own_fin {c s ch cl sh sl hi lo nh nl : Int64} {b : Int32} (hc : 0 ≤ c.toInt ∧ c.toInt < 100000000000000000) (hb : 0 ≤ b.toInt ∧ b.toInt ≤ 10000)
    (hs : 0 ≤ s.toInt ∧ s.toInt ≤ 200000000000000000 ∧ 0 ≤ c.toInt * b.toInt - 10000 * s.toInt ∧ c.toInt * b.toInt - 10000 * s.toInt ≤ 9999)
    (e1 : ((c.toUInt64 >>> ((32 : Int32) &&& 0x3f).toInt64.toUInt64).toInt64) = ch) (e2 : (c &&& (4294967295 : Int64)) = cl) (e3 : (s >>> ((32 : Int32) &&& 0x3f).toInt64) = sh) (e4 : (s &&& (4294967295 : Int64)) = sl)
    (e5 : ((ch * (b.toInt64)) - (sh * (10000 : Int64))) = hi) (e6 : ((cl * (b.toInt64)) - (sl * (10000 : Int64))) = lo) (e7 : (hi + (lo >>> ((32 : Int32) &&& 0x3f).toInt64)) = nh) (e8 : (lo &&& (4294967295 : Int64)) = nl) :
    nh = (0 : Int64) ∧ ¬ (9999 : Int64) < nl := by
  have hB : b.toInt64.toInt = b.toInt := c_i2l b
  have a1 := c_lushr c (32 : Int32) 32 rfl (by decide)
  have a2 := c_maskL c (4294967295 : Int64) 32 (by decide) rfl
  have a3 := c_lshr s (32 : Int32) 32 rfl
  have a4 := c_maskL s (4294967295 : Int64) 32 (by decide) rfl
  rw [e1] at a1
  rw [e2] at a2
  rw [e3] at a3
  rw [e4] at a4
  have p32 : ((2 ^ 32 : Nat) : Int) = 4294967296 := rfl
  rw [p32] at a1 a2 a3 a4
  have U := own_mulb (show 0 ≤ ch.toInt by omega) (show ch.toInt ≤ 23283065 by omega) hb.1 hb.2
  have W := own_mulb (show 0 ≤ cl.toInt by omega) (show cl.toInt ≤ 4294967295 by omega) hb.1 hb.2
  have m1 : (ch * b.toInt64).toInt = ch.toInt * b.toInt := by
    have := own_mul64 ch b.toInt64 (by rw [hB]; omega) (by rw [hB]; omega)
    rw [this, hB]
  have m2 : (cl * b.toInt64).toInt = cl.toInt * b.toInt := by
    have := own_mul64 cl b.toInt64 (by rw [hB]; omega) (by rw [hB]; omega)
    rw [this, hB]
  have t4 : (10000 : Int64).toInt = 10000 := rfl
  have m3 := c_lmul sh (10000 : Int64)
  have m4 := c_lmul sl (10000 : Int64)
  have r3 := rng64 (sh * (10000 : Int64))
  have r4 := rng64 (sl * (10000 : Int64))
  have s1 := c_lsub (ch * b.toInt64) (sh * (10000 : Int64))
  have s2 := c_lsub (cl * b.toInt64) (sl * (10000 : Int64))
  rw [e5] at s1
  rw [e6] at s2
  have r5 := rng64 hi
  have r6 := rng64 lo
  have a7 := c_lshr lo (32 : Int32) 32 rfl
  have a8 := c_maskL lo (4294967295 : Int64) 32 (by decide) rfl
  rw [e8] at a8
  have s3 := c_ladd hi (lo >>> ((32 : Int32) &&& 0x3f).toInt64)
  rw [e7] at s3
  have r7 := rng64 nh
  rw [p32] at a7 a8
  have d : c.toInt * b.toInt = 4294967296 * (ch.toInt * b.toInt) + cl.toInt * b.toInt := by
    rw [← Int.mul_assoc, ← Int.add_mul]
    congr 1
    omega
  have z0 : (0 : Int64).toInt = 0 := rfl
  have z9 : (9999 : Int64).toInt = 9999 := rfl
  rw [d] at hs
  rw [m1] at s1
  rw [m2] at s2
  rw [t4] at m3 m4
  generalize ch.toInt * b.toInt = u at *
  generalize cl.toInt * b.toInt = w at *
  generalize (lo >>> ((32 : Int32) &&& 0x3f).toInt64).toInt = ls at *
  generalize (sh * (10000 : Int64)).toInt = x1 at *
  generalize (sl * (10000 : Int64)).toInt = x2 at *
  clear e1 e2 e3 e4 e5 e6 e7 e8
  have b1 : 0 ≤ sh.toInt ∧ sh.toInt ≤ 46566129 := by clear a1 a2 m3 m4 s1 s2 s3 a7 a8 d hc hb U W m1 m2; omega
  have b2 : 0 ≤ sl.toInt ∧ sl.toInt ≤ 4294967295 := by clear a1 a2 m3 m4 s1 s2 s3 a7 a8 d hc hb U W m1 m2; omega
  have f1 : x1 = 10000 * sh.toInt := by clear a1 a2 a3 a4 m4 s1 s2 s3 a7 a8 d hc hb hs U W m1 m2; omega
  have f2 : x2 = 10000 * sl.toInt := by clear a1 a2 a3 a4 m3 s1 s2 s3 a7 a8 d hc hb hs U W m1 m2; omega
  have f3 : hi.toInt = u - x1 := by clear a1 a2 a3 a4 m3 m4 s2 s3 a7 a8 d hc hb hs W m1 m2; omega
  have f4 : lo.toInt = w - x2 := by clear a1 a2 a3 a4 m3 m4 s1 s3 a7 a8 d hc hb hs U m1 m2; omega
  have f6 : s.toInt = 4294967296 * sh.toInt + sl.toInt := by clear a1 a2 m3 m4 s1 s2 s3 a7 a8 d hc hb hs U W m1 m2; omega
  have f7 : lo.toInt = 4294967296 * ls + nl.toInt ∧ 0 ≤ nl.toInt ∧ nl.toInt ≤ 4294967295 := by clear a1 a2 a3 a4 m3 m4 s1 s2 s3 d hc hb hs U W m1 m2; omega
  have f5 : nh.toInt = hi.toInt + ls := by clear a1 a2 a3 a4 m3 m4 s1 s2 a7 a8 d hc hb hs m1 m2; omega
  constructor
  · refine Int64.toInt_inj.mp ?_
    rw [z0]
    clear a1 a2 a3 a4 m3 m4 s1 s2 s3 a7 a8 d hc hb m1 m2
    omega
  · rw [Int64.lt_iff_toInt_lt, z9]
    clear a1 a2 a3 a4 m3 m4 s1 s2 s3 a7 a8 d hc hb m1 m2
    omega
theorem own_i0 {b : Int32} (h : 0 ≤ b.toInt) : ¬ b < (0 : Int32) := fun q => by
  rw [Int32.lt_iff_toInt_lt] at q
  have : (0 : Int32).toInt = 0 := rfl
  omega
theorem own_i1 {b : Int32} (h : b.toInt ≤ 10000) : ¬ (10000 : Int32) < b := fun q => by
  rw [Int32.lt_iff_toInt_lt] at q
  have : (10000 : Int32).toInt = 10000 := rfl
  omega
theorem own_l0 {b : Int64} (h : 0 ≤ b.toInt) : ¬ b < (0 : Int64) := fun q => by
  rw [Int64.lt_iff_toInt_lt] at q
  have : (0 : Int64).toInt = 0 := rfl
  omega
theorem d2_0 : decode jdk_30_method_1_code 0 = .ok (.aload_n 0, 1) := by decide +kernel
theorem d2_1 : decode jdk_30_method_1_code 1 = .ok (.invokespecial 1, 3) := by decide +kernel
theorem d2_4 : decode jdk_30_method_1_code 4 = .ok (.return_, 1) := by decide +kernel
theorem pn_2 : plainName "java/lang/Record" = true := by first | (simp [plainName, overriddenIn]; done) | decide +kernel
theorem d1_0 : decode prog_33_method_1_code 0 = .ok (.aload_n 0, 1) := by decide +kernel
theorem d1_1 : decode prog_33_method_1_code 1 = .ok (.invokespecial 1, 3) := by decide +kernel
theorem d1_4 : decode prog_33_method_1_code 4 = .ok (.iload_n 1, 1) := by decide +kernel
theorem d1_5 : decode prog_33_method_1_code 5 = .ok (.ifCond .lt 10, 3) := by decide +kernel
theorem d1_8 : decode prog_33_method_1_code 8 = .ok (.iload_n 1, 1) := by decide +kernel
theorem d1_9 : decode prog_33_method_1_code 9 = .ok (.sipush 10000, 3) := by decide +kernel
theorem d1_12 : decode prog_33_method_1_code 12 = .ok (.if_icmp .le 17, 3) := by decide +kernel
theorem d1_15 : decode prog_33_method_1_code 15 = .ok (.new 9, 3) := by decide +kernel
theorem d1_18 : decode prog_33_method_1_code 18 = .ok (.dup, 1) := by decide +kernel
theorem d1_19 : decode prog_33_method_1_code 19 = .ok (.iload_n 1, 1) := by decide +kernel
theorem d1_25 : decode prog_33_method_1_code 25 = .ok (.invokespecial 15, 3) := by decide +kernel
theorem d1_28 : decode prog_33_method_1_code 28 = .ok (.athrow, 1) := by decide +kernel
theorem d1_29 : decode prog_33_method_1_code 29 = .ok (.aload_n 0, 1) := by decide +kernel
theorem d1_30 : decode prog_33_method_1_code 30 = .ok (.iload_n 1, 1) := by decide +kernel
theorem d1_31 : decode prog_33_method_1_code 31 = .ok (.putfield 18, 3) := by decide +kernel
theorem d1_34 : decode prog_33_method_1_code 34 = .ok (.return_, 1) := by decide +kernel
theorem pn_1 : plainName "com/example/lossfall/lossfall/model/Percentage" = true := by first | (simp [plainName, overriddenIn]; done) | decide +kernel
theorem d4_0 : decode prog_33_method_3_code 0 = .ok (.lload_n 1, 1) := by decide +kernel
theorem d4_1 : decode prog_33_method_3_code 1 = .ok (.lconst 0, 1) := by decide +kernel
theorem d4_2 : decode prog_33_method_3_code 2 = .ok (.lcmp, 1) := by decide +kernel
theorem d4_3 : decode prog_33_method_3_code 3 = .ok (.ifCond .ge 17, 3) := by decide +kernel
theorem d4_6 : decode prog_33_method_3_code 6 = .ok (.new 9, 3) := by decide +kernel
theorem d4_9 : decode prog_33_method_3_code 9 = .ok (.dup, 1) := by decide +kernel
theorem d4_10 : decode prog_33_method_3_code 10 = .ok (.lload_n 1, 1) := by decide +kernel
theorem d4_16 : decode prog_33_method_3_code 16 = .ok (.invokespecial 15, 3) := by decide +kernel
theorem d4_19 : decode prog_33_method_3_code 19 = .ok (.athrow, 1) := by decide +kernel
theorem d4_20 : decode prog_33_method_3_code 20 = .ok (.lload_n 1, 1) := by decide +kernel
theorem d4_21 : decode prog_33_method_3_code 21 = .ok (.ldc2_w 50, 3) := by decide +kernel
theorem d4_24 : decode prog_33_method_3_code 24 = .ok (.ldiv, 1) := by decide +kernel
theorem d4_25 : decode prog_33_method_3_code 25 = .ok (.aload_n 0, 1) := by decide +kernel
theorem d4_26 : decode prog_33_method_3_code 26 = .ok (.getfield 18, 3) := by decide +kernel
theorem d4_29 : decode prog_33_method_3_code 29 = .ok (.i2l, 1) := by decide +kernel
theorem d4_30 : decode prog_33_method_3_code 30 = .ok (.lmul, 1) := by decide +kernel
theorem d4_31 : decode prog_33_method_3_code 31 = .ok (.lload_n 1, 1) := by decide +kernel
theorem d4_32 : decode prog_33_method_3_code 32 = .ok (.ldc2_w 50, 3) := by decide +kernel
theorem d4_35 : decode prog_33_method_3_code 35 = .ok (.lrem, 1) := by decide +kernel
theorem d4_36 : decode prog_33_method_3_code 36 = .ok (.aload_n 0, 1) := by decide +kernel
theorem d4_37 : decode prog_33_method_3_code 37 = .ok (.getfield 18, 3) := by decide +kernel
theorem d4_40 : decode prog_33_method_3_code 40 = .ok (.i2l, 1) := by decide +kernel
theorem d4_41 : decode prog_33_method_3_code 41 = .ok (.lmul, 1) := by decide +kernel
theorem d4_42 : decode prog_33_method_3_code 42 = .ok (.ldc2_w 50, 3) := by decide +kernel
theorem d4_45 : decode prog_33_method_3_code 45 = .ok (.ldiv, 1) := by decide +kernel
theorem d4_46 : decode prog_33_method_3_code 46 = .ok (.ladd, 1) := by decide +kernel
theorem d4_47 : decode prog_33_method_3_code 47 = .ok (.lreturn, 1) := by decide +kernel
theorem pn_4 : plainName "com/example/lossfall/lossfall/model/Percentage" = true := by first | (simp [plainName, overriddenIn]; done) | decide +kernel
theorem pn_0 : plainName "com/example/lossfall/lossfall/model/PercentageShareOfPinLaw" = true := by first | (simp [plainName, overriddenIn]; done) | decide +kernel
theorem pd_0 : parseMethodDescriptor "()V" = some ⟨[], none⟩ := by decide +kernel
theorem pd_1 : parseMethodDescriptor "(I)V" = some ⟨[.int], none⟩ := by decide +kernel
theorem pd_2 : parseMethodDescriptor "(J)J" = some ⟨[.long], some .long⟩ := by decide +kernel
theorem ef_2 (m : MethodId) (x0 : Addr) : entryFrame m #[(.ref x0)] 1 = mkF m 0 #[.val (.ref x0)] [] := by first | (simp [entryFrame, mkF, argsToLocals, Value.category]; done) | rfl
def Q2 (Z : State) (a1 : Addr) (h0 : Heap) (n0 : Nat) (v : Option Value) (h : Heap) (L : List Loc) : Prop := v = none ∧ Fr n0 L ∧ h = h0
set_option maxRecDepth 65536 in
set_option maxHeartbeats 40000000 in
theorem rm2 (l : Launch) (Z : State) (a0 : Array Value) (hw : ∀ d ∈ tables_1, d.before a0 Z = true) (ws : List Jvm.Cond) (a1 : Addr) (h0 : Heap) (n0 : Nat) (Z0 : n0 ≤ h0.size) :
    MetFree l (⟨"java/lang/Record", "<init>", "()V"⟩ : MethodName) (head1 (Jvm.Cond.code (⟨"java/lang/Record", "<init>", "()V"⟩ : MethodName) jdk_30_method_1_code 1 none :: ws) ({ frames := 1, cells := 0, slots := 0, locals := 12 } : Room)) (fun a U => a = #[(.ref a1)] ∧ Z.Warmed39 U.vm ∧ U.heap = h0) (fun _ _ _ _ _ => True) (fun _ U o U' => ∃ v L, o = .returned v ∧ Q2 Z a1 h0 n0 v U'.heap L ∧ FrameEnd U o U' L ({ frames := 1, cells := 0, slots := 0, locals := 12 } : Room).cells ({ frames := 1, cells := 0, slots := 0, locals := 12 } : Room).slots) := by
  refine MetFree.of_bodySF (plainFor_of_name pn_2) hisR ?_
  intro p e s m args below meth c s₁ Bd hml0 hP hK
  obtain ⟨rfl, hZ, hh⟩ := hP
  have hx := Bd.exec
  have hby := Bd.bytes
  have hml : c.maxLocals = 1 := hml0
  have hown : s.vm.findClass "java/lang/Record" = some m.cls := findClass_of_methodNamed Bd.named
  have hnm := (name_of_methodNamed Bd.named Bd.method).1
  have X0 : Stand p l e ({ frames := 1, cells := 0, slots := 0, locals := 12 } : Room) s m #[(.ref a1)] below meth c s₁ [] 0 0 := Stand.of_body Bd
  have e0 : s₁.heap = h0 := by rw [← hh, Bd.state]; rfl
  have N0 := Fr.nil n0
  show EndsQ p.tables e below s (fun v h L => Q2 Z a1 h0 n0 v h L) ({ frames := 1, cells := 0, slots := 0, locals := 12 } : Room).cells ({ frames := 1, cells := 0, slots := 0, locals := 12 } : Room).slots _
  refine EndsQ.go (b := s₁.setTop (mkF m 0 #[.val (.ref a1)] [])) (fun t k => castTop (ef_2 m a1) k) ?_
  refine EndsQ.go (b := s₁.setTop (mkF m 1 #[.val (.ref a1)] [(.ref a1)])) (fun t k => ?_) ?_
  · show Steps p.tables e below (s₁.setTop (mkF m 0 #[.val (.ref a1)] [])) _
    refine XS.aloadN X0.here hx rfl (hb hby d2_0) rfl rfl ?_
    show Steps p.tables e below (s₁.setTop (mkF m 1 #[.val (.ref a1)] [(.ref a1)])) _
    exact k
  obtain ⟨T101, X101, e101, st101⟩ := initO X0 hx hZ hown (hw _ (List.mem_of_getElem? (i := 14) rfl)) (hw _ (List.mem_of_getElem? (i := 15) rfl)) (hw _ (List.mem_of_getElem? (i := 16) rfl)) e0 (g := (mkF m 1 #[.val (.ref a1)] [(.ref a1)])) rfl (by rw [hml]; rfl) rfl (hb hby d2_1) (by decide) (W := 0) (by show 2 * 0 + _ ≤ _; exact Nat.le_of_eq rfl) (by decide)
  refine EndsQ.go st101 ?_
  show EndsQ _ _ _ _ _ _ _ (T101.setTop (mkF m 4 #[.val (.ref a1)] []))
  refine EndsQ.retV X101 hx Bd.notSynchronized Bd.returns (hb hby d2_4) (by decide) (by decide) ?_
  show Q2 Z a1 h0 n0 (none) T101.heap _
  rw [e101]
  exact ⟨rfl, N0, rfl⟩
theorem ef_1 (m : MethodId) (x0 : Addr) (x1 : Int32) : entryFrame m #[(.ref x0), (.int x1)] 2 = mkF m 0 #[.val (.ref x0), .val (.int x1)] [] := by first | (simp [entryFrame, mkF, argsToLocals, Value.category]; done) | rfl
def Q1 (Z : State) (a1 : Addr) (p2 : Int32) (h0 : Heap) (n0 : Nat) (v : Option Value) (h : Heap) (L : List Loc) : Prop := v = none ∧ Fr n0 L ∧ Keep h0 h [a1] ∧ Exa Z h a1 "com/example/lossfall/lossfall/model/Percentage" ∧ Fld Z h a1 "com/example/lossfall/lossfall/model/Percentage" "basisPoints" "I" (.int p2)
set_option maxRecDepth 65536 in
set_option maxHeartbeats 40000000 in
theorem rm1 (l : Launch) (Z : State) (a0 : Array Value) (hw : ∀ d ∈ tables_1, d.before a0 Z = true) (ws : List Jvm.Cond) (a1 : Addr) (p2 : Int32) (h0 : Heap) (n0 : Nat) (Z0 : n0 ≤ h0.size) (F1 : Fld Z h0 a1 "com/example/lossfall/lossfall/model/Percentage" "basisPoints" "I" (.int (0 : Int32))) (E1 : Exa Z h0 a1 "com/example/lossfall/lossfall/model/Percentage") (g1 : n0 ≤ a1) (hp0 : ¬ p2 < (0 : Int32)) (hp1 : ¬ (10000 : Int32) < p2) :
    MetFree l (⟨"com/example/lossfall/lossfall/model/Percentage", "<init>", "(I)V"⟩ : MethodName) (head1 (Jvm.Cond.code (⟨"com/example/lossfall/lossfall/model/Percentage", "<init>", "(I)V"⟩ : MethodName) prog_33_method_1_code 2 none :: ws) ({ frames := 2, cells := 0, slots := 0, locals := 24 } : Room)) (fun a U => a = #[(.ref a1), (.int p2)] ∧ Z.Warmed39 U.vm ∧ U.heap = h0) (fun _ _ _ _ _ => True) (fun _ U o U' => ∃ v L, o = .returned v ∧ Q1 Z a1 p2 h0 n0 v U'.heap L ∧ FrameEnd U o U' L ({ frames := 2, cells := 0, slots := 0, locals := 24 } : Room).cells ({ frames := 2, cells := 0, slots := 0, locals := 24 } : Room).slots) := by
  refine MetFree.of_bodySF (plainFor_of_name pn_1) hisR ?_
  intro p e s m args below meth c s₁ Bd hml0 hP hK
  obtain ⟨rfl, hZ, hh⟩ := hP
  have hx := Bd.exec
  have hby := Bd.bytes
  have hml : c.maxLocals = 2 := hml0
  have hown : s.vm.findClass "com/example/lossfall/lossfall/model/Percentage" = some m.cls := findClass_of_methodNamed Bd.named
  have hnm := (name_of_methodNamed Bd.named Bd.method).1
  have X0 : Stand p l e ({ frames := 2, cells := 0, slots := 0, locals := 24 } : Room) s m #[(.ref a1), (.int p2)] below meth c s₁ [] 0 0 := Stand.of_body Bd
  have e0 : s₁.heap = h0 := by rw [← hh, Bd.state]; rfl
  have N0 := Fr.nil n0
  show EndsQ p.tables e below s (fun v h L => Q1 Z a1 p2 h0 n0 v h L) ({ frames := 2, cells := 0, slots := 0, locals := 24 } : Room).cells ({ frames := 2, cells := 0, slots := 0, locals := 24 } : Room).slots _
  refine EndsQ.go (b := s₁.setTop (mkF m 0 #[.val (.ref a1), .val (.int p2)] [])) (fun t k => castTop (ef_1 m a1 p2) k) ?_
  have K0 : Keep h0 h0 [a1] := Keep.refl _ _
  refine EndsQ.go (b := s₁.setTop (mkF m 1 #[.val (.ref a1), .val (.int p2)] [(.ref a1)])) (fun t k => ?_) ?_
  · show Steps p.tables e below (s₁.setTop (mkF m 0 #[.val (.ref a1), .val (.int p2)] [])) _
    refine XS.aloadN X0.here hx rfl (hb hby d1_0) rfl rfl ?_
    show Steps p.tables e below (s₁.setTop (mkF m 1 #[.val (.ref a1), .val (.int p2)] [(.ref a1)])) _
    exact k
  obtain ⟨_, _, ⟨T101, L101, kk101, nn101⟩, -, X101, ⟨Lc101, hQ101, l101, y101, z101⟩, st101⟩ := X0.specialBack hx (y := (⟨"java/lang/Record", "<init>", "()V"⟩ : MethodName)) rfl hown (mvT hZ (hw _ (List.mem_of_getElem? (i := 9) rfl))) (mvT hZ (hw _ (List.mem_of_getElem? (i := 10) rfl))) (mvT hZ (hw _ (List.mem_of_getElem? (i := 13) rfl))) (by decide) (backOf (W := 0) (rm2 l Z a0 hw [] a1 h0 n0 Z0) hZ (hw _ (List.mem_of_getElem? (i := 13) rfl)) (hw _ (List.mem_of_getElem? (i := 12) rfl)) (by decide) (by decide)) (g := (mkF m 1 #[.val (.ref a1), .val (.int p2)] [(.ref a1)])) rfl (by rw [hml]; rfl) (Steps.refl _) (a := a1) (argsL := []) (rest := []) (lenOf pd_0 rfl) rfl (by show 2 * 0 + _ ≤ _; exact Nat.le_of_eq rfl) (hb hby d1_1) (fun _ _ => ⟨rfl, e0, (by decide : 0 + 0 ≤ _), (by decide : 0 + 0 ≤ _)⟩)
  dsimp only [Pt.U, Pt.locs, Pt.cells, Pt.slots] at X101 l101 y101 z101 st101 hQ101
  subst l101 y101 z101
  obtain ⟨rfl, Nq101, eq101⟩ := hQ101
  have N101 := Fr.app N0 Nq101
  refine EndsQ.go (fun t k => st101.trans k) ?_
  show EndsQ _ _ _ _ _ _ _ (T101.setTop (mkF m 4 #[.val (.ref a1), .val (.int p2)] []))
  refine EndsQ.go (b := T101.setTop (mkF m 31 #[.val (.ref a1), .val (.int p2)] [(.int p2), (.ref a1)])) (fun t k => ?_) ?_
  · show Steps p.tables e below (T101.setTop (mkF m 4 #[.val (.ref a1), .val (.int p2)] [])) _
    refine XS.iloadN X101.here hx rfl (hb hby d1_4) rfl ?_
    show Steps p.tables e below (T101.setTop (mkF m 5 #[.val (.ref a1), .val (.int p2)] [(.int p2)])) _
    refine XS.ifNo X101.here hx rfl (hb hby d1_5) rfl ((if0 _ _).trans (flt hp0).1) ?_
    show Steps p.tables e below (T101.setTop (mkF m 8 #[.val (.ref a1), .val (.int p2)] [])) _
    refine XS.iloadN X101.here hx rfl (hb hby d1_8) rfl ?_
    show Steps p.tables e below (T101.setTop (mkF m 9 #[.val (.ref a1), .val (.int p2)] [(.int p2)])) _
    refine XS.sipush X101.here hx rfl (hb hby d1_9) ?_
    show Steps p.tables e below (T101.setTop (mkF m 12 #[.val (.ref a1), .val (.int p2)] [(.int (10000 : Int32)), (.int p2)])) _
    refine XS.icmpYes X101.here hx rfl (pc0 := 12) (pc' := 29) rfl (hb hby d1_12) rfl (flt hp1).2.2.2 (by decide) (by decide) ?_
    show Steps p.tables e below (T101.setTop (mkF m 29 #[.val (.ref a1), .val (.int p2)] [])) _
    refine XS.aloadN X101.here hx rfl (hb hby d1_29) rfl rfl ?_
    show Steps p.tables e below (T101.setTop (mkF m 30 #[.val (.ref a1), .val (.int p2)] [(.ref a1)])) _
    refine XS.iloadN X101.here hx rfl (hb hby d1_30) rfl ?_
    show Steps p.tables e below (T101.setTop (mkF m 31 #[.val (.ref a1), .val (.int p2)] [(.int p2), (.ref a1)])) _
    exact k
  obtain ⟨T102, h102, X102, e102, W102, st102⟩ := putF X101 hx hZ hown (host := "") (Or.inl (hw _ (List.mem_of_getElem? (i := 17) rfl))) Via.refl eq101 F1 E1 (Or.inr ⟨(hw _ (List.mem_of_getElem? (i := 18) rfl)), rfl, hnm⟩) (hw _ (List.mem_of_getElem? (i := 4) rfl)) (ty := .int) (by decide) rfl rfl (g := (mkF m 31 #[.val (.ref a1), .val (.int p2)] [(.int p2), (.ref a1)])) rfl rfl (hb hby d1_31)
  have fw102 : Fld Z h102 a1 "com/example/lossfall/lossfall/model/Percentage" "basisPoints" "I" (.int p2) := F1.same W102
  have f103 : Exa Z h102 a1 "com/example/lossfall/lossfall/model/Percentage" := E1.wr W102
  have f104 : n0 ≤ h102.size := Nat.le_trans Z0 (Keep.of_wr W102).1
  have f105 : Keep h0 h102 [a1] := K0.wr W102 (Or.inl (List.mem_of_getElem? (i := 0) rfl))
  have N102 := Fr.snoc X102 N101 g1
  refine EndsQ.go st102 ?_
  show EndsQ _ _ _ _ _ _ _ (T102.setTop (mkF m 34 #[.val (.ref a1), .val (.int p2)] []))
  refine EndsQ.retV X102 hx Bd.notSynchronized Bd.returns (hb hby d1_34) (by decide) (by decide) ?_
  show Q1 Z a1 p2 h0 n0 (none) T102.heap _
  rw [e102]
  exact ⟨rfl, N102, f105, f103, fw102⟩
theorem ef_4 (m : MethodId) (x0 : Addr) (x1 : Int64) : entryFrame m #[(.ref x0), (.long x1)] 3 = mkF m 0 #[.val (.ref x0), .val (.long x1), .second] [] := by first | (simp [entryFrame, mkF, argsToLocals, Value.category]; done) | rfl
def Q4 (Z : State) (a1 : Addr) (q2 : Int64) (b3 : Int32) (h0 : Heap) (n0 : Nat) (v : Option Value) (h : Heap) (L : List Loc) : Prop := v = some (.long (own_share q2 b3)) ∧ Fr n0 L ∧ h = h0
set_option maxRecDepth 65536 in
set_option maxHeartbeats 40000000 in
theorem rm4 (l : Launch) (Z : State) (a0 : Array Value) (hw : ∀ d ∈ tables_1, d.before a0 Z = true) (ws : List Jvm.Cond) (a1 : Addr) (q2 : Int64) (b3 : Int32) (h0 : Heap) (n0 : Nat) (Z0 : n0 ≤ h0.size) (F1 : Fld Z h0 a1 "com/example/lossfall/lossfall/model/Percentage" "basisPoints" "I" (.int b3)) (hq : ¬ q2 < (0 : Int64)) :
    MetFree l (⟨"com/example/lossfall/lossfall/model/Percentage", "shareOf", "(J)J"⟩ : MethodName) (head1 (Jvm.Cond.code (⟨"com/example/lossfall/lossfall/model/Percentage", "shareOf", "(J)J"⟩ : MethodName) prog_33_method_3_code 3 (some .long) :: ws) ({ frames := 0, cells := 0, slots := 0, locals := 0 } : Room)) (fun a U => a = #[(.ref a1), (.long q2)] ∧ Z.Warmed39 U.vm ∧ U.heap = h0) (fun _ _ _ _ _ => True) (fun _ U o U' => ∃ v L, o = .returned v ∧ Q4 Z a1 q2 b3 h0 n0 v U'.heap L ∧ FrameEnd U o U' L ({ frames := 0, cells := 0, slots := 0, locals := 0 } : Room).cells ({ frames := 0, cells := 0, slots := 0, locals := 0 } : Room).slots) := by
  refine MetFree.of_bodySF (plainFor_of_name pn_4) hisR ?_
  intro p e s m args below meth c s₁ Bd hml0 hP hK
  obtain ⟨rfl, hZ, hh⟩ := hP
  have hx := Bd.exec
  have hby := Bd.bytes
  have hml : c.maxLocals = 3 := hml0
  have hown : s.vm.findClass "com/example/lossfall/lossfall/model/Percentage" = some m.cls := findClass_of_methodNamed Bd.named
  have hnm := (name_of_methodNamed Bd.named Bd.method).1
  have X0 : Stand p l e ({ frames := 0, cells := 0, slots := 0, locals := 0 } : Room) s m #[(.ref a1), (.long q2)] below meth c s₁ [] 0 0 := Stand.of_body Bd
  have e0 : s₁.heap = h0 := by rw [← hh, Bd.state]; rfl
  have N0 := Fr.nil n0
  show EndsQ p.tables e below s (fun v h L => Q4 Z a1 q2 b3 h0 n0 v h L) ({ frames := 0, cells := 0, slots := 0, locals := 0 } : Room).cells ({ frames := 0, cells := 0, slots := 0, locals := 0 } : Room).slots _
  refine EndsQ.go (b := s₁.setTop (mkF m 0 #[.val (.ref a1), .val (.long q2), .second] [])) (fun t k => castTop (ef_4 m a1 q2) k) ?_
  refine EndsQ.go (b := s₁.setTop (mkF m 26 #[.val (.ref a1), .val (.long q2), .second] [(.ref a1), (.long (q2 / (10000 : Int64)))])) (fun t k => ?_) ?_
  · show Steps p.tables e below (s₁.setTop (mkF m 0 #[.val (.ref a1), .val (.long q2), .second] [])) _
    refine XS.lloadN X0.here hx rfl (hb hby d4_0) rfl ?_
    show Steps p.tables e below (s₁.setTop (mkF m 1 #[.val (.ref a1), .val (.long q2), .second] [(.long q2)])) _
    refine XS.lconst X0.here hx rfl (hb hby d4_1) ?_
    show Steps p.tables e below (s₁.setTop (mkF m 2 #[.val (.ref a1), .val (.long q2), .second] [(.long (0 : Int64)), (.long q2)])) _
    refine XS.lcmp X0.here hx rfl (hb hby d4_2) rfl ?_
    show Steps p.tables e below (s₁.setTop (mkF m 3 #[.val (.ref a1), .val (.long q2), .second] [(.int (lcmpW q2 (0 : Int64)))])) _
    refine XS.ifYes X0.here hx rfl (pc0 := 3) (pc' := 20) rfl (hb hby d4_3) rfl ((if0 _ _).trans (flt (fun q => hq ((lw_lt q2 (0 : Int64)).mp q))).2.1) (by decide) (by decide) ?_
    show Steps p.tables e below (s₁.setTop (mkF m 20 #[.val (.ref a1), .val (.long q2), .second] [])) _
    refine XS.lloadN X0.here hx rfl (hb hby d4_20) rfl ?_
    show Steps p.tables e below (s₁.setTop (mkF m 21 #[.val (.ref a1), .val (.long q2), .second] [(.long q2)])) _
    refine X0.ldc2Long hx hown (mvT hZ (hw _ (List.mem_of_getElem? (i := 24) rfl))) (g := (mkF m 21 #[.val (.ref a1), .val (.long q2), .second] [(.long q2)])) rfl (hb hby d4_21) _ ?_
    show Steps p.tables e below (s₁.setTop (mkF m 24 #[.val (.ref a1), .val (.long q2), .second] [(.long (10000 : Int64)), (.long q2)])) _
    refine XS.ldiv X0.here hx rfl (hb hby d4_24) rfl (by decide) ?_
    show Steps p.tables e below (s₁.setTop (mkF m 25 #[.val (.ref a1), .val (.long q2), .second] [(.long (q2 / (10000 : Int64)))])) _
    refine XS.aloadN X0.here hx rfl (hb hby d4_25) rfl rfl ?_
    show Steps p.tables e below (s₁.setTop (mkF m 26 #[.val (.ref a1), .val (.long q2), .second] [(.ref a1), (.long (q2 / (10000 : Int64)))])) _
    exact k
  obtain ⟨T101, X101, e101, st101⟩ := getF X0 hx hZ hown (host := "") (Or.inl (hw _ (List.mem_of_getElem? (i := 17) rfl))) Via.refl e0 F1 (g := (mkF m 26 #[.val (.ref a1), .val (.long q2), .second] [(.ref a1), (.long (q2 / (10000 : Int64)))])) rfl rfl (hb hby d4_26)
  refine EndsQ.go st101 ?_
  show EndsQ _ _ _ _ _ _ _ (T101.setTop (mkF m 29 #[.val (.ref a1), .val (.long q2), .second] [(.int b3), (.long (q2 / (10000 : Int64)))]))
  refine EndsQ.go (b := T101.setTop (mkF m 37 #[.val (.ref a1), .val (.long q2), .second] [(.ref a1), (.long (q2 - (q2 / (10000 : Int64)) * (10000 : Int64))), (.long ((q2 / (10000 : Int64)) * (b3.toInt64)))])) (fun t k => ?_) ?_
  · show Steps p.tables e below (T101.setTop (mkF m 29 #[.val (.ref a1), .val (.long q2), .second] [(.int b3), (.long (q2 / (10000 : Int64)))])) _
    refine XS.i2l X101.here hx rfl (hb hby d4_29) rfl ?_
    show Steps p.tables e below (T101.setTop (mkF m 30 #[.val (.ref a1), .val (.long q2), .second] [(.long (b3.toInt64)), (.long (q2 / (10000 : Int64)))])) _
    refine XS.lmul X101.here hx rfl (hb hby d4_30) rfl ?_
    show Steps p.tables e below (T101.setTop (mkF m 31 #[.val (.ref a1), .val (.long q2), .second] [(.long ((q2 / (10000 : Int64)) * (b3.toInt64)))])) _
    refine XS.lloadN X101.here hx rfl (hb hby d4_31) rfl ?_
    show Steps p.tables e below (T101.setTop (mkF m 32 #[.val (.ref a1), .val (.long q2), .second] [(.long q2), (.long ((q2 / (10000 : Int64)) * (b3.toInt64)))])) _
    refine X101.ldc2Long hx hown (mvT hZ (hw _ (List.mem_of_getElem? (i := 24) rfl))) (g := (mkF m 32 #[.val (.ref a1), .val (.long q2), .second] [(.long q2), (.long ((q2 / (10000 : Int64)) * (b3.toInt64)))])) rfl (hb hby d4_32) _ ?_
    show Steps p.tables e below (T101.setTop (mkF m 35 #[.val (.ref a1), .val (.long q2), .second] [(.long (10000 : Int64)), (.long q2), (.long ((q2 / (10000 : Int64)) * (b3.toInt64)))])) _
    refine XS.lrem X101.here hx rfl (hb hby d4_35) rfl (by decide) ?_
    show Steps p.tables e below (T101.setTop (mkF m 36 #[.val (.ref a1), .val (.long q2), .second] [(.long (q2 - (q2 / (10000 : Int64)) * (10000 : Int64))), (.long ((q2 / (10000 : Int64)) * (b3.toInt64)))])) _
    refine XS.aloadN X101.here hx rfl (hb hby d4_36) rfl rfl ?_
    show Steps p.tables e below (T101.setTop (mkF m 37 #[.val (.ref a1), .val (.long q2), .second] [(.ref a1), (.long (q2 - (q2 / (10000 : Int64)) * (10000 : Int64))), (.long ((q2 / (10000 : Int64)) * (b3.toInt64)))])) _
    exact k
  obtain ⟨T102, X102, e102, st102⟩ := getF X101 hx hZ hown (host := "") (Or.inl (hw _ (List.mem_of_getElem? (i := 17) rfl))) Via.refl e101 F1 (g := (mkF m 37 #[.val (.ref a1), .val (.long q2), .second] [(.ref a1), (.long (q2 - (q2 / (10000 : Int64)) * (10000 : Int64))), (.long ((q2 / (10000 : Int64)) * (b3.toInt64)))])) rfl rfl (hb hby d4_37)
  refine EndsQ.go st102 ?_
  show EndsQ _ _ _ _ _ _ _ (T102.setTop (mkF m 40 #[.val (.ref a1), .val (.long q2), .second] [(.int b3), (.long (q2 - (q2 / (10000 : Int64)) * (10000 : Int64))), (.long ((q2 / (10000 : Int64)) * (b3.toInt64)))]))
  refine EndsQ.go (b := T102.setTop (mkF m 47 #[.val (.ref a1), .val (.long q2), .second] [(.long (((q2 / (10000 : Int64)) * (b3.toInt64)) + (((q2 - (q2 / (10000 : Int64)) * (10000 : Int64)) * (b3.toInt64)) / (10000 : Int64))))])) (fun t k => ?_) ?_
  · show Steps p.tables e below (T102.setTop (mkF m 40 #[.val (.ref a1), .val (.long q2), .second] [(.int b3), (.long (q2 - (q2 / (10000 : Int64)) * (10000 : Int64))), (.long ((q2 / (10000 : Int64)) * (b3.toInt64)))])) _
    refine XS.i2l X102.here hx rfl (hb hby d4_40) rfl ?_
    show Steps p.tables e below (T102.setTop (mkF m 41 #[.val (.ref a1), .val (.long q2), .second] [(.long (b3.toInt64)), (.long (q2 - (q2 / (10000 : Int64)) * (10000 : Int64))), (.long ((q2 / (10000 : Int64)) * (b3.toInt64)))])) _
    refine XS.lmul X102.here hx rfl (hb hby d4_41) rfl ?_
    show Steps p.tables e below (T102.setTop (mkF m 42 #[.val (.ref a1), .val (.long q2), .second] [(.long ((q2 - (q2 / (10000 : Int64)) * (10000 : Int64)) * (b3.toInt64))), (.long ((q2 / (10000 : Int64)) * (b3.toInt64)))])) _
    refine X102.ldc2Long hx hown (mvT hZ (hw _ (List.mem_of_getElem? (i := 24) rfl))) (g := (mkF m 42 #[.val (.ref a1), .val (.long q2), .second] [(.long ((q2 - (q2 / (10000 : Int64)) * (10000 : Int64)) * (b3.toInt64))), (.long ((q2 / (10000 : Int64)) * (b3.toInt64)))])) rfl (hb hby d4_42) _ ?_
    show Steps p.tables e below (T102.setTop (mkF m 45 #[.val (.ref a1), .val (.long q2), .second] [(.long (10000 : Int64)), (.long ((q2 - (q2 / (10000 : Int64)) * (10000 : Int64)) * (b3.toInt64))), (.long ((q2 / (10000 : Int64)) * (b3.toInt64)))])) _
    refine XS.ldiv X102.here hx rfl (hb hby d4_45) rfl (by decide) ?_
    show Steps p.tables e below (T102.setTop (mkF m 46 #[.val (.ref a1), .val (.long q2), .second] [(.long (((q2 - (q2 / (10000 : Int64)) * (10000 : Int64)) * (b3.toInt64)) / (10000 : Int64))), (.long ((q2 / (10000 : Int64)) * (b3.toInt64)))])) _
    refine XS.ladd X102.here hx rfl (hb hby d4_46) rfl ?_
    show Steps p.tables e below (T102.setTop (mkF m 47 #[.val (.ref a1), .val (.long q2), .second] [(.long (((q2 / (10000 : Int64)) * (b3.toInt64)) + (((q2 - (q2 / (10000 : Int64)) * (10000 : Int64)) * (b3.toInt64)) / (10000 : Int64))))])) _
    exact k
  refine EndsQ.retJ X102 hx Bd.notSynchronized Bd.returns (hb hby d4_47) (by decide) (by decide) ?_
  show Q4 Z a1 q2 b3 h0 n0 (some (.long (((q2 / (10000 : Int64)) * (b3.toInt64)) + (((q2 - (q2 / (10000 : Int64)) * (10000 : Int64)) * (b3.toInt64)) / (10000 : Int64))))) T102.heap _
  rw [e102]
  exact ⟨rfl, N0, rfl⟩
theorem ef_0 (m : MethodId) (x0 : Int64) (x1 : Int32) : entryFrame m #[(.long x0), (.int x1)] maxLocals = mkF m 0 #[.val (.long x0), .second, .val (.int x1), .unset, .unset, .unset, .unset, .unset, .unset, .unset, .unset, .unset, .unset, .unset, .unset, .unset, .unset, .unset, .unset, .unset, .unset, .unset, .unset, .unset] [] := by first | (simp [entryFrame, mkF, argsToLocals, Value.category, maxLocals]; done) | rfl
def Q0 (Z : State) (q1 : Int64) (p2 : Int32) (h0 : Heap) (n0 : Nat) (v : Option Value) (h : Heap) (L : List Loc) : Prop := v = some (.int 1) ∧ Fr n0 L
set_option maxRecDepth 65536 in
set_option maxHeartbeats 40000000 in
theorem rm0 (l : Launch) (Z : State) (a0 : Array Value) (hw : ∀ d ∈ tables_1, d.before a0 Z = true) (ws : List Jvm.Cond) (q1 : Int64) (p2 : Int32) (h0 : Heap) (n0 : Nat) (Z0 : n0 ≤ h0.size) :
    MetFree l x (head1 (Jvm.Cond.code x code maxLocals ret :: ws) room_1) (fun a U => a = #[(.long q1), (.int p2)] ∧ Z.Warmed39 U.vm ∧ U.heap = h0) (fun _ _ _ _ _ => True) (fun _ U o U' => ∃ v L, o = .returned v ∧ Q0 Z q1 p2 h0 n0 v U'.heap L ∧ FrameEnd U o U' L 16 128) := by
  refine MetFree.of_bodySF (plainFor_of_name pn_0) hisR ?_
  intro p e s m args below meth c s₁ Bd hml0 hP hK
  obtain ⟨rfl, hZ, hh⟩ := hP
  have hx := Bd.exec
  have hby := Bd.bytes
  have hml : c.maxLocals = 24 := hml0
  have hown : s.vm.findClass "com/example/lossfall/lossfall/model/PercentageShareOfPinLaw" = some m.cls := findClass_of_methodNamed Bd.named
  have hnm := (name_of_methodNamed Bd.named Bd.method).1
  have X0 : Stand p l e room_1 s m #[(.long q1), (.int p2)] below meth c s₁ [] 0 0 := Stand.of_body Bd
  have e0 : s₁.heap = h0 := by rw [← hh, Bd.state]; rfl
  have N0 := Fr.nil n0
  show EndsQ p.tables e below s (fun v h L => Q0 Z q1 p2 h0 n0 v h L) 16 128 _
  refine EndsQ.go (b := s₁.setTop (mkF m 0 #[.val (.long q1), .second, .val (.int p2), .unset, .unset, .unset, .unset, .unset, .unset, .unset, .unset, .unset, .unset, .unset, .unset, .unset, .unset, .unset, .unset, .unset, .unset, .unset, .unset, .unset] [])) (fun t k => castTop (ef_0 m q1 p2) k) ?_
  refine EndsQ.go (b := s₁.setTop (mkF m 10 #[.val (.long q1), .second, .val (.int p2), .val (.long ((q1 &&& (9223372036854775807 : Int64)) - ((q1 &&& (9223372036854775807 : Int64)) / (100000000000000000 : Int64)) * (100000000000000000 : Int64))), .second, .unset, .unset, .unset, .unset, .unset, .unset, .unset, .unset, .unset, .unset, .unset, .unset, .unset, .unset, .unset, .unset, .unset, .unset, .unset] [])) (fun t k => ?_) ?_
  · show Steps p.tables e below (s₁.setTop (mkF m 0 #[.val (.long q1), .second, .val (.int p2), .unset, .unset, .unset, .unset, .unset, .unset, .unset, .unset, .unset, .unset, .unset, .unset, .unset, .unset, .unset, .unset, .unset, .unset, .unset, .unset, .unset] [])) _
    refine XS.lloadN X0.here hx rfl (hb hby at_0) rfl ?_
    show Steps p.tables e below (s₁.setTop (mkF m 1 #[.val (.long q1), .second, .val (.int p2), .unset, .unset, .unset, .unset, .unset, .unset, .unset, .unset, .unset, .unset, .unset, .unset, .unset, .unset, .unset, .unset, .unset, .unset, .unset, .unset, .unset] [(.long q1)])) _
    refine X0.ldc2Long hx hown (mvT hZ (hw _ (List.mem_of_getElem? (i := 0) rfl))) (g := (mkF m 1 #[.val (.long q1), .second, .val (.int p2), .unset, .unset, .unset, .unset, .unset, .unset, .unset, .unset, .unset, .unset, .unset, .unset, .unset, .unset, .unset, .unset, .unset, .unset, .unset, .unset, .unset] [(.long q1)])) rfl (hb hby at_1) _ ?_
    show Steps p.tables e below (s₁.setTop (mkF m 4 #[.val (.long q1), .second, .val (.int p2), .unset, .unset, .unset, .unset, .unset, .unset, .unset, .unset, .unset, .unset, .unset, .unset, .unset, .unset, .unset, .unset, .unset, .unset, .unset, .unset, .unset] [(.long (9223372036854775807 : Int64)), (.long q1)])) _
    refine XS.land X0.here hx rfl (hb hby at_4) rfl ?_
    show Steps p.tables e below (s₁.setTop (mkF m 5 #[.val (.long q1), .second, .val (.int p2), .unset, .unset, .unset, .unset, .unset, .unset, .unset, .unset, .unset, .unset, .unset, .unset, .unset, .unset, .unset, .unset, .unset, .unset, .unset, .unset, .unset] [(.long (q1 &&& (9223372036854775807 : Int64)))])) _
    refine X0.ldc2Long hx hown (mvT hZ (hw _ (List.mem_of_getElem? (i := 1) rfl))) (g := (mkF m 5 #[.val (.long q1), .second, .val (.int p2), .unset, .unset, .unset, .unset, .unset, .unset, .unset, .unset, .unset, .unset, .unset, .unset, .unset, .unset, .unset, .unset, .unset, .unset, .unset, .unset, .unset] [(.long (q1 &&& (9223372036854775807 : Int64)))])) rfl (hb hby at_5) _ ?_
    show Steps p.tables e below (s₁.setTop (mkF m 8 #[.val (.long q1), .second, .val (.int p2), .unset, .unset, .unset, .unset, .unset, .unset, .unset, .unset, .unset, .unset, .unset, .unset, .unset, .unset, .unset, .unset, .unset, .unset, .unset, .unset, .unset] [(.long (100000000000000000 : Int64)), (.long (q1 &&& (9223372036854775807 : Int64)))])) _
    refine XS.lrem X0.here hx rfl (hb hby at_8) rfl (by decide) ?_
    show Steps p.tables e below (s₁.setTop (mkF m 9 #[.val (.long q1), .second, .val (.int p2), .unset, .unset, .unset, .unset, .unset, .unset, .unset, .unset, .unset, .unset, .unset, .unset, .unset, .unset, .unset, .unset, .unset, .unset, .unset, .unset, .unset] [(.long ((q1 &&& (9223372036854775807 : Int64)) - ((q1 &&& (9223372036854775807 : Int64)) / (100000000000000000 : Int64)) * (100000000000000000 : Int64)))])) _
    refine XS.lstoreN X0.here hx rfl (hb hby at_9) rfl (l' := #[.val (.long q1), .second, .val (.int p2), .val (.long ((q1 &&& (9223372036854775807 : Int64)) - ((q1 &&& (9223372036854775807 : Int64)) / (100000000000000000 : Int64)) * (100000000000000000 : Int64))), .second, .unset, .unset, .unset, .unset, .unset, .unset, .unset, .unset, .unset, .unset, .unset, .unset, .unset, .unset, .unset, .unset, .unset, .unset, .unset]) rfl ?_
    show Steps p.tables e below (s₁.setTop (mkF m 10 #[.val (.long q1), .second, .val (.int p2), .val (.long ((q1 &&& (9223372036854775807 : Int64)) - ((q1 &&& (9223372036854775807 : Int64)) / (100000000000000000 : Int64)) * (100000000000000000 : Int64))), .second, .unset, .unset, .unset, .unset, .unset, .unset, .unset, .unset, .unset, .unset, .unset, .unset, .unset, .unset, .unset, .unset, .unset, .unset, .unset] [])) _
    exact k
  generalize hv_cc : ((q1 &&& (9223372036854775807 : Int64)) - ((q1 &&& (9223372036854775807 : Int64)) / (100000000000000000 : Int64)) * (100000000000000000 : Int64)) = cc
  have hb_c : 0 ≤ cc.toInt ∧ cc.toInt < 100000000000000000 := by rw [← hv_cc]; exact own_c q1
  show EndsQ _ _ _ _ _ _ _ (s₁.setTop (mkF m 10 #[.val (.long q1), .second, .val (.int p2), .val (.long cc), .second, .unset, .unset, .unset, .unset, .unset, .unset, .unset, .unset, .unset, .unset, .unset, .unset, .unset, .unset, .unset, .unset, .unset, .unset, .unset] []))
  refine EndsQ.go (b := s₁.setTop (mkF m 20 #[.val (.long q1), .second, .val (.int p2), .val (.long cc), .second, .val (.int ((p2 &&& (2147483647 : Int32)) % (10001 : Int32))), .unset, .unset, .unset, .unset, .unset, .unset, .unset, .unset, .unset, .unset, .unset, .unset, .unset, .unset, .unset, .unset, .unset, .unset] [])) (fun t k => ?_) ?_
  · show Steps p.tables e below (s₁.setTop (mkF m 10 #[.val (.long q1), .second, .val (.int p2), .val (.long cc), .second, .unset, .unset, .unset, .unset, .unset, .unset, .unset, .unset, .unset, .unset, .unset, .unset, .unset, .unset, .unset, .unset, .unset, .unset, .unset] [])) _
    refine XS.iloadN X0.here hx rfl (hb hby at_10) rfl ?_
    show Steps p.tables e below (s₁.setTop (mkF m 11 #[.val (.long q1), .second, .val (.int p2), .val (.long cc), .second, .unset, .unset, .unset, .unset, .unset, .unset, .unset, .unset, .unset, .unset, .unset, .unset, .unset, .unset, .unset, .unset, .unset, .unset, .unset] [(.int p2)])) _
    refine X0.ldcInt hx hown (mvT hZ (hw _ (List.mem_of_getElem? (i := 2) rfl))) (g := (mkF m 11 #[.val (.long q1), .second, .val (.int p2), .val (.long cc), .second, .unset, .unset, .unset, .unset, .unset, .unset, .unset, .unset, .unset, .unset, .unset, .unset, .unset, .unset, .unset, .unset, .unset, .unset, .unset] [(.int p2)])) rfl (hb hby at_11) _ ?_
    show Steps p.tables e below (s₁.setTop (mkF m 13 #[.val (.long q1), .second, .val (.int p2), .val (.long cc), .second, .unset, .unset, .unset, .unset, .unset, .unset, .unset, .unset, .unset, .unset, .unset, .unset, .unset, .unset, .unset, .unset, .unset, .unset, .unset] [(.int (2147483647 : Int32)), (.int p2)])) _
    refine XS.iand X0.here hx rfl (hb hby at_13) rfl ?_
    show Steps p.tables e below (s₁.setTop (mkF m 14 #[.val (.long q1), .second, .val (.int p2), .val (.long cc), .second, .unset, .unset, .unset, .unset, .unset, .unset, .unset, .unset, .unset, .unset, .unset, .unset, .unset, .unset, .unset, .unset, .unset, .unset, .unset] [(.int (p2 &&& (2147483647 : Int32)))])) _
    refine XS.sipush X0.here hx rfl (hb hby at_14) ?_
    show Steps p.tables e below (s₁.setTop (mkF m 17 #[.val (.long q1), .second, .val (.int p2), .val (.long cc), .second, .unset, .unset, .unset, .unset, .unset, .unset, .unset, .unset, .unset, .unset, .unset, .unset, .unset, .unset, .unset, .unset, .unset, .unset, .unset] [(.int (10001 : Int32)), (.int (p2 &&& (2147483647 : Int32)))])) _
    refine iremM X0 hx rfl (hb hby at_17) rfl (by decide) ?_
    show Steps p.tables e below (s₁.setTop (mkF m 18 #[.val (.long q1), .second, .val (.int p2), .val (.long cc), .second, .unset, .unset, .unset, .unset, .unset, .unset, .unset, .unset, .unset, .unset, .unset, .unset, .unset, .unset, .unset, .unset, .unset, .unset, .unset] [(.int ((p2 &&& (2147483647 : Int32)) % (10001 : Int32)))])) _
    refine XS.istore X0.here hx rfl (hb hby at_18) rfl (l' := #[.val (.long q1), .second, .val (.int p2), .val (.long cc), .second, .val (.int ((p2 &&& (2147483647 : Int32)) % (10001 : Int32))), .unset, .unset, .unset, .unset, .unset, .unset, .unset, .unset, .unset, .unset, .unset, .unset, .unset, .unset, .unset, .unset, .unset, .unset]) rfl ?_
    show Steps p.tables e below (s₁.setTop (mkF m 20 #[.val (.long q1), .second, .val (.int p2), .val (.long cc), .second, .val (.int ((p2 &&& (2147483647 : Int32)) % (10001 : Int32))), .unset, .unset, .unset, .unset, .unset, .unset, .unset, .unset, .unset, .unset, .unset, .unset, .unset, .unset, .unset, .unset, .unset, .unset] [])) _
    exact k
  generalize hv_bp : ((p2 &&& (2147483647 : Int32)) % (10001 : Int32)) = bp
  have hb_b : 0 ≤ bp.toInt ∧ bp.toInt ≤ 10000 := by rw [← hv_bp]; exact own_b p2
  show EndsQ _ _ _ _ _ _ _ (s₁.setTop (mkF m 20 #[.val (.long q1), .second, .val (.int p2), .val (.long cc), .second, .val (.int bp), .unset, .unset, .unset, .unset, .unset, .unset, .unset, .unset, .unset, .unset, .unset, .unset, .unset, .unset, .unset, .unset, .unset, .unset] []))
  obtain ⟨T101, h101, X101, e101, E101, A101, D101, -, st101⟩ := newO X0 hx hZ hown (hw _ (List.mem_of_getElem? (i := 3) rfl)) (hw _ (List.mem_of_getElem? (i := 4) rfl)) (hw _ (List.mem_of_getElem? (i := 5) rfl)) e0 (g := (mkF m 20 #[.val (.long q1), .second, .val (.int p2), .val (.long cc), .second, .val (.int bp), .unset, .unset, .unset, .unset, .unset, .unset, .unset, .unset, .unset, .unset, .unset, .unset, .unset, .unset, .unset, .unset, .unset, .unset] [])) rfl (hb hby at_20) (by decide) (by decide)
  obtain ⟨b101, g101⟩ : ∃ z, z = h0.size := ⟨_, rfl⟩
  rw [← g101] at A101 D101 st101
  have gn101 : n0 ≤ b101 := Nat.le_trans Z0 (Nat.le_of_eq g101.symm)
  have f102 : n0 ≤ h101.size := Nat.le_trans Z0 E101.1
  have f103 : Fld Z h101 b101 "com/example/lossfall/lossfall/model/Percentage" "basisPoints" "I" (.int (0 : Int32)) := D101 (Or.inr (hw _ (List.mem_of_getElem? (i := 18) rfl))) (ty := .int) (by decide)
  refine EndsQ.go st101 ?_
  show EndsQ _ _ _ _ _ _ _ (T101.setTop (mkF m 23 #[.val (.long q1), .second, .val (.int p2), .val (.long cc), .second, .val (.int bp), .unset, .unset, .unset, .unset, .unset, .unset, .unset, .unset, .unset, .unset, .unset, .unset, .unset, .unset, .unset, .unset, .unset, .unset] [(.ref b101)]))
  refine EndsQ.go (b := T101.setTop (mkF m 26 #[.val (.long q1), .second, .val (.int p2), .val (.long cc), .second, .val (.int bp), .unset, .unset, .unset, .unset, .unset, .unset, .unset, .unset, .unset, .unset, .unset, .unset, .unset, .unset, .unset, .unset, .unset, .unset] [(.int bp), (.ref b101), (.ref b101)])) (fun t k => ?_) ?_
  · show Steps p.tables e below (T101.setTop (mkF m 23 #[.val (.long q1), .second, .val (.int p2), .val (.long cc), .second, .val (.int bp), .unset, .unset, .unset, .unset, .unset, .unset, .unset, .unset, .unset, .unset, .unset, .unset, .unset, .unset, .unset, .unset, .unset, .unset] [(.ref b101)])) _
    refine XS.dup X101.here hx rfl (hb hby at_23) rfl rfl ?_
    show Steps p.tables e below (T101.setTop (mkF m 24 #[.val (.long q1), .second, .val (.int p2), .val (.long cc), .second, .val (.int bp), .unset, .unset, .unset, .unset, .unset, .unset, .unset, .unset, .unset, .unset, .unset, .unset, .unset, .unset, .unset, .unset, .unset, .unset] [(.ref b101), (.ref b101)])) _
    refine XS.iload X101.here hx rfl (hb hby at_24) rfl ?_
    show Steps p.tables e below (T101.setTop (mkF m 26 #[.val (.long q1), .second, .val (.int p2), .val (.long cc), .second, .val (.int bp), .unset, .unset, .unset, .unset, .unset, .unset, .unset, .unset, .unset, .unset, .unset, .unset, .unset, .unset, .unset, .unset, .unset, .unset] [(.int bp), (.ref b101), (.ref b101)])) _
    exact k
  obtain ⟨_, _, ⟨T104, L104, kk104, nn104⟩, -, X104, ⟨Lc104, hQ104, l104, y104, z104⟩, st104⟩ := X101.specialBack hx (y := (⟨"com/example/lossfall/lossfall/model/Percentage", "<init>", "(I)V"⟩ : MethodName)) rfl hown (mvT hZ (hw _ (List.mem_of_getElem? (i := 6) rfl))) (mvT hZ (hw _ (List.mem_of_getElem? (i := 7) rfl))) (mvT hZ (hw _ (List.mem_of_getElem? (i := 8) rfl))) (by decide) (backOf (W := 1) (rm1 l Z a0 hw [] b101 bp h101 n0 f102 f103 A101 gn101 (own_i0 hb_b.1) (own_i1 hb_b.2)) hZ (hw _ (List.mem_of_getElem? (i := 8) rfl)) (hw _ (List.mem_of_getElem? (i := 5) rfl)) (by decide) (by decide)) (g := (mkF m 26 #[.val (.long q1), .second, .val (.int p2), .val (.long cc), .second, .val (.int bp), .unset, .unset, .unset, .unset, .unset, .unset, .unset, .unset, .unset, .unset, .unset, .unset, .unset, .unset, .unset, .unset, .unset, .unset] [(.int bp), (.ref b101), (.ref b101)])) rfl (by rw [hml]; rfl) (Steps.refl _) (a := b101) (argsL := [(.int bp)]) (rest := [(.ref b101)]) (lenOf pd_1 rfl) rfl (by show 2 * 0 + _ ≤ _; exact Nat.le_of_eq rfl) (hb hby at_26) (fun _ _ => ⟨rfl, e101, (by decide : 1 + 0 ≤ _), (by decide : 1 + 0 ≤ _)⟩)
  dsimp only [Pt.U, Pt.locs, Pt.cells, Pt.slots] at X104 l104 y104 z104 st104 hQ104
  subst l104 y104 z104
  obtain ⟨rfl, Nq104, K104, Ex104, Fx104⟩ := hQ104
  have N104 := Fr.app N0 Nq104
  have f105 : n0 ≤ T104.heap.size := Nat.le_trans f102 K104.1
  refine EndsQ.go (fun t k => st104.trans k) ?_
  show EndsQ _ _ _ _ _ _ _ (T104.setTop (mkF m 29 #[.val (.long q1), .second, .val (.int p2), .val (.long cc), .second, .val (.int bp), .unset, .unset, .unset, .unset, .unset, .unset, .unset, .unset, .unset, .unset, .unset, .unset, .unset, .unset, .unset, .unset, .unset, .unset] [(.ref b101)]))
  refine EndsQ.go (b := T104.setTop (mkF m 30 #[.val (.long q1), .second, .val (.int p2), .val (.long cc), .second, .val (.int bp), .unset, .unset, .unset, .unset, .unset, .unset, .unset, .unset, .unset, .unset, .unset, .unset, .unset, .unset, .unset, .unset, .unset, .unset] [(.long cc), (.ref b101)])) (fun t k => ?_) ?_
  · show Steps p.tables e below (T104.setTop (mkF m 29 #[.val (.long q1), .second, .val (.int p2), .val (.long cc), .second, .val (.int bp), .unset, .unset, .unset, .unset, .unset, .unset, .unset, .unset, .unset, .unset, .unset, .unset, .unset, .unset, .unset, .unset, .unset, .unset] [(.ref b101)])) _
    refine XS.lloadN X104.here hx rfl (hb hby at_29) rfl ?_
    show Steps p.tables e below (T104.setTop (mkF m 30 #[.val (.long q1), .second, .val (.int p2), .val (.long cc), .second, .val (.int bp), .unset, .unset, .unset, .unset, .unset, .unset, .unset, .unset, .unset, .unset, .unset, .unset, .unset, .unset, .unset, .unset, .unset, .unset] [(.long cc), (.ref b101)])) _
    exact k
  obtain ⟨cq106, kq106, qa106, qb106, qc106⟩ := isOf hZ rfl Ex104
  obtain ⟨_, _, ⟨T106, L106, kk106, nn106⟩, -, X106, ⟨Lc106, hQ106, l106, y106, z106⟩, st106⟩ := X104.virtualBack hx (y := (⟨"com/example/lossfall/lossfall/model/Percentage", "shareOf", "(J)J"⟩ : MethodName)) (z := (⟨"com/example/lossfall/lossfall/model/Percentage", "shareOf", "(J)J"⟩ : MethodName)) hown (mvT hZ (hw _ (List.mem_of_getElem? (i := 19) rfl))) (mvT hZ (hw _ (List.mem_of_getElem? (i := 20) rfl))) (notFace_of_selects (args := #[]) (mvT hZ (hw _ (List.mem_of_getElem? (i := 22) rfl)))) (mvT hZ (hw _ (List.mem_of_getElem? (i := 22) rfl))) (mvT hZ (hw _ (List.mem_of_getElem? (i := 21) rfl))) (by decide) (backOf (W := 0) (rm4 l Z a0 hw [] b101 cc bp T104.heap n0 f105 Fx104 (own_l0 hb_c.1)) hZ (hw _ (List.mem_of_getElem? (i := 23) rfl)) (hw _ (List.mem_of_getElem? (i := 5) rfl)) (by decide) (by decide)) qa106 qc106 (g := (mkF m 30 #[.val (.long q1), .second, .val (.int p2), .val (.long cc), .second, .val (.int bp), .unset, .unset, .unset, .unset, .unset, .unset, .unset, .unset, .unset, .unset, .unset, .unset, .unset, .unset, .unset, .unset, .unset, .unset] [(.long cc), (.ref b101)])) rfl (by rw [hml]; rfl) (Steps.refl _) (argsL := [(.long cc)]) (rest := []) (lenOf pd_2 rfl) rfl (by show 2 * 0 + _ ≤ _; exact Nat.le_of_eq rfl) (hb hby at_30) (fun _ _ => ⟨rfl, rfl, (by decide : 1 + 0 ≤ _), (by decide : 1 + 0 ≤ _)⟩)
  dsimp only [Pt.U, Pt.locs, Pt.cells, Pt.slots] at X106 l106 y106 z106 st106 hQ106
  subst l106 y106 z106
  obtain ⟨rfl, Nq106, eq106⟩ := hQ106
  have N106 := Fr.app N104 Nq106
  refine EndsQ.go (fun t k => st106.trans k) ?_
  show EndsQ _ _ _ _ _ _ _ (T106.setTop (mkF m 33 #[.val (.long q1), .second, .val (.int p2), .val (.long cc), .second, .val (.int bp), .unset, .unset, .unset, .unset, .unset, .unset, .unset, .unset, .unset, .unset, .unset, .unset, .unset, .unset, .unset, .unset, .unset, .unset] [(.long (own_share cc bp))]))
  refine EndsQ.go (b := T106.setTop (mkF m 35 #[.val (.long q1), .second, .val (.int p2), .val (.long cc), .second, .val (.int bp), .val (.long (own_share cc bp)), .second, .unset, .unset, .unset, .unset, .unset, .unset, .unset, .unset, .unset, .unset, .unset, .unset, .unset, .unset, .unset, .unset] [])) (fun t k => ?_) ?_
  · show Steps p.tables e below (T106.setTop (mkF m 33 #[.val (.long q1), .second, .val (.int p2), .val (.long cc), .second, .val (.int bp), .unset, .unset, .unset, .unset, .unset, .unset, .unset, .unset, .unset, .unset, .unset, .unset, .unset, .unset, .unset, .unset, .unset, .unset] [(.long (own_share cc bp))])) _
    refine XS.lstore X106.here hx rfl (hb hby at_33) rfl (l' := #[.val (.long q1), .second, .val (.int p2), .val (.long cc), .second, .val (.int bp), .val (.long (own_share cc bp)), .second, .unset, .unset, .unset, .unset, .unset, .unset, .unset, .unset, .unset, .unset, .unset, .unset, .unset, .unset, .unset, .unset]) rfl ?_
    show Steps p.tables e below (T106.setTop (mkF m 35 #[.val (.long q1), .second, .val (.int p2), .val (.long cc), .second, .val (.int bp), .val (.long (own_share cc bp)), .second, .unset, .unset, .unset, .unset, .unset, .unset, .unset, .unset, .unset, .unset, .unset, .unset, .unset, .unset, .unset, .unset] [])) _
    exact k
  have hs := own_s cc bp hb_c hb_b
  generalize hv_ss : (own_share cc bp) = ss
  rw [hv_ss] at hs
  show EndsQ _ _ _ _ _ _ _ (T106.setTop (mkF m 35 #[.val (.long q1), .second, .val (.int p2), .val (.long cc), .second, .val (.int bp), .val (.long ss), .second, .unset, .unset, .unset, .unset, .unset, .unset, .unset, .unset, .unset, .unset, .unset, .unset, .unset, .unset, .unset, .unset] []))
  refine EndsQ.go (b := T106.setTop (mkF m 41 #[.val (.long q1), .second, .val (.int p2), .val (.long cc), .second, .val (.int bp), .val (.long ss), .second, .val (.long ((cc.toUInt64 >>> ((32 : Int32) &&& 0x3f).toInt64.toUInt64).toInt64)), .second, .unset, .unset, .unset, .unset, .unset, .unset, .unset, .unset, .unset, .unset, .unset, .unset, .unset, .unset] [])) (fun t k => ?_) ?_
  · show Steps p.tables e below (T106.setTop (mkF m 35 #[.val (.long q1), .second, .val (.int p2), .val (.long cc), .second, .val (.int bp), .val (.long ss), .second, .unset, .unset, .unset, .unset, .unset, .unset, .unset, .unset, .unset, .unset, .unset, .unset, .unset, .unset, .unset, .unset] [])) _
    refine XS.lloadN X106.here hx rfl (hb hby at_35) rfl ?_
    show Steps p.tables e below (T106.setTop (mkF m 36 #[.val (.long q1), .second, .val (.int p2), .val (.long cc), .second, .val (.int bp), .val (.long ss), .second, .unset, .unset, .unset, .unset, .unset, .unset, .unset, .unset, .unset, .unset, .unset, .unset, .unset, .unset, .unset, .unset] [(.long cc)])) _
    refine XS.bipush X106.here hx rfl (hb hby at_36) ?_
    show Steps p.tables e below (T106.setTop (mkF m 38 #[.val (.long q1), .second, .val (.int p2), .val (.long cc), .second, .val (.int bp), .val (.long ss), .second, .unset, .unset, .unset, .unset, .unset, .unset, .unset, .unset, .unset, .unset, .unset, .unset, .unset, .unset, .unset, .unset] [(.int (32 : Int32)), (.long cc)])) _
    refine XS.lushr X106.here hx rfl (hb hby at_38) rfl ?_
    show Steps p.tables e below (T106.setTop (mkF m 39 #[.val (.long q1), .second, .val (.int p2), .val (.long cc), .second, .val (.int bp), .val (.long ss), .second, .unset, .unset, .unset, .unset, .unset, .unset, .unset, .unset, .unset, .unset, .unset, .unset, .unset, .unset, .unset, .unset] [(.long ((cc.toUInt64 >>> ((32 : Int32) &&& 0x3f).toInt64.toUInt64).toInt64))])) _
    refine XS.lstore X106.here hx rfl (hb hby at_39) rfl (l' := #[.val (.long q1), .second, .val (.int p2), .val (.long cc), .second, .val (.int bp), .val (.long ss), .second, .val (.long ((cc.toUInt64 >>> ((32 : Int32) &&& 0x3f).toInt64.toUInt64).toInt64)), .second, .unset, .unset, .unset, .unset, .unset, .unset, .unset, .unset, .unset, .unset, .unset, .unset, .unset, .unset]) rfl ?_
    show Steps p.tables e below (T106.setTop (mkF m 41 #[.val (.long q1), .second, .val (.int p2), .val (.long cc), .second, .val (.int bp), .val (.long ss), .second, .val (.long ((cc.toUInt64 >>> ((32 : Int32) &&& 0x3f).toInt64.toUInt64).toInt64)), .second, .unset, .unset, .unset, .unset, .unset, .unset, .unset, .unset, .unset, .unset, .unset, .unset, .unset, .unset] [])) _
    exact k
  generalize hv_ch : ((cc.toUInt64 >>> ((32 : Int32) &&& 0x3f).toInt64.toUInt64).toInt64) = ch
  show EndsQ _ _ _ _ _ _ _ (T106.setTop (mkF m 41 #[.val (.long q1), .second, .val (.int p2), .val (.long cc), .second, .val (.int bp), .val (.long ss), .second, .val (.long ch), .second, .unset, .unset, .unset, .unset, .unset, .unset, .unset, .unset, .unset, .unset, .unset, .unset, .unset, .unset] []))
  refine EndsQ.go (b := T106.setTop (mkF m 48 #[.val (.long q1), .second, .val (.int p2), .val (.long cc), .second, .val (.int bp), .val (.long ss), .second, .val (.long ch), .second, .val (.long (cc &&& (4294967295 : Int64))), .second, .unset, .unset, .unset, .unset, .unset, .unset, .unset, .unset, .unset, .unset, .unset, .unset] [])) (fun t k => ?_) ?_
  · show Steps p.tables e below (T106.setTop (mkF m 41 #[.val (.long q1), .second, .val (.int p2), .val (.long cc), .second, .val (.int bp), .val (.long ss), .second, .val (.long ch), .second, .unset, .unset, .unset, .unset, .unset, .unset, .unset, .unset, .unset, .unset, .unset, .unset, .unset, .unset] [])) _
    refine XS.lloadN X106.here hx rfl (hb hby at_41) rfl ?_
    show Steps p.tables e below (T106.setTop (mkF m 42 #[.val (.long q1), .second, .val (.int p2), .val (.long cc), .second, .val (.int bp), .val (.long ss), .second, .val (.long ch), .second, .unset, .unset, .unset, .unset, .unset, .unset, .unset, .unset, .unset, .unset, .unset, .unset, .unset, .unset] [(.long cc)])) _
    refine X106.ldc2Long hx hown (mvT hZ (hw _ (List.mem_of_getElem? (i := 25) rfl))) (g := (mkF m 42 #[.val (.long q1), .second, .val (.int p2), .val (.long cc), .second, .val (.int bp), .val (.long ss), .second, .val (.long ch), .second, .unset, .unset, .unset, .unset, .unset, .unset, .unset, .unset, .unset, .unset, .unset, .unset, .unset, .unset] [(.long cc)])) rfl (hb hby at_42) _ ?_
    show Steps p.tables e below (T106.setTop (mkF m 45 #[.val (.long q1), .second, .val (.int p2), .val (.long cc), .second, .val (.int bp), .val (.long ss), .second, .val (.long ch), .second, .unset, .unset, .unset, .unset, .unset, .unset, .unset, .unset, .unset, .unset, .unset, .unset, .unset, .unset] [(.long (4294967295 : Int64)), (.long cc)])) _
    refine XS.land X106.here hx rfl (hb hby at_45) rfl ?_
    show Steps p.tables e below (T106.setTop (mkF m 46 #[.val (.long q1), .second, .val (.int p2), .val (.long cc), .second, .val (.int bp), .val (.long ss), .second, .val (.long ch), .second, .unset, .unset, .unset, .unset, .unset, .unset, .unset, .unset, .unset, .unset, .unset, .unset, .unset, .unset] [(.long (cc &&& (4294967295 : Int64)))])) _
    refine XS.lstore X106.here hx rfl (hb hby at_46) rfl (l' := #[.val (.long q1), .second, .val (.int p2), .val (.long cc), .second, .val (.int bp), .val (.long ss), .second, .val (.long ch), .second, .val (.long (cc &&& (4294967295 : Int64))), .second, .unset, .unset, .unset, .unset, .unset, .unset, .unset, .unset, .unset, .unset, .unset, .unset]) rfl ?_
    show Steps p.tables e below (T106.setTop (mkF m 48 #[.val (.long q1), .second, .val (.int p2), .val (.long cc), .second, .val (.int bp), .val (.long ss), .second, .val (.long ch), .second, .val (.long (cc &&& (4294967295 : Int64))), .second, .unset, .unset, .unset, .unset, .unset, .unset, .unset, .unset, .unset, .unset, .unset, .unset] [])) _
    exact k
  generalize hv_cl : (cc &&& (4294967295 : Int64)) = cl
  show EndsQ _ _ _ _ _ _ _ (T106.setTop (mkF m 48 #[.val (.long q1), .second, .val (.int p2), .val (.long cc), .second, .val (.int bp), .val (.long ss), .second, .val (.long ch), .second, .val (.long cl), .second, .unset, .unset, .unset, .unset, .unset, .unset, .unset, .unset, .unset, .unset, .unset, .unset] []))
  refine EndsQ.go (b := T106.setTop (mkF m 55 #[.val (.long q1), .second, .val (.int p2), .val (.long cc), .second, .val (.int bp), .val (.long ss), .second, .val (.long ch), .second, .val (.long cl), .second, .val (.long (ss >>> ((32 : Int32) &&& 0x3f).toInt64)), .second, .unset, .unset, .unset, .unset, .unset, .unset, .unset, .unset, .unset, .unset] [])) (fun t k => ?_) ?_
  · show Steps p.tables e below (T106.setTop (mkF m 48 #[.val (.long q1), .second, .val (.int p2), .val (.long cc), .second, .val (.int bp), .val (.long ss), .second, .val (.long ch), .second, .val (.long cl), .second, .unset, .unset, .unset, .unset, .unset, .unset, .unset, .unset, .unset, .unset, .unset, .unset] [])) _
    refine XS.lload X106.here hx rfl (hb hby at_48) rfl ?_
    show Steps p.tables e below (T106.setTop (mkF m 50 #[.val (.long q1), .second, .val (.int p2), .val (.long cc), .second, .val (.int bp), .val (.long ss), .second, .val (.long ch), .second, .val (.long cl), .second, .unset, .unset, .unset, .unset, .unset, .unset, .unset, .unset, .unset, .unset, .unset, .unset] [(.long ss)])) _
    refine XS.bipush X106.here hx rfl (hb hby at_50) ?_
    show Steps p.tables e below (T106.setTop (mkF m 52 #[.val (.long q1), .second, .val (.int p2), .val (.long cc), .second, .val (.int bp), .val (.long ss), .second, .val (.long ch), .second, .val (.long cl), .second, .unset, .unset, .unset, .unset, .unset, .unset, .unset, .unset, .unset, .unset, .unset, .unset] [(.int (32 : Int32)), (.long ss)])) _
    refine XS.lshr X106.here hx rfl (hb hby at_52) rfl ?_
    show Steps p.tables e below (T106.setTop (mkF m 53 #[.val (.long q1), .second, .val (.int p2), .val (.long cc), .second, .val (.int bp), .val (.long ss), .second, .val (.long ch), .second, .val (.long cl), .second, .unset, .unset, .unset, .unset, .unset, .unset, .unset, .unset, .unset, .unset, .unset, .unset] [(.long (ss >>> ((32 : Int32) &&& 0x3f).toInt64))])) _
    refine XS.lstore X106.here hx rfl (hb hby at_53) rfl (l' := #[.val (.long q1), .second, .val (.int p2), .val (.long cc), .second, .val (.int bp), .val (.long ss), .second, .val (.long ch), .second, .val (.long cl), .second, .val (.long (ss >>> ((32 : Int32) &&& 0x3f).toInt64)), .second, .unset, .unset, .unset, .unset, .unset, .unset, .unset, .unset, .unset, .unset]) rfl ?_
    show Steps p.tables e below (T106.setTop (mkF m 55 #[.val (.long q1), .second, .val (.int p2), .val (.long cc), .second, .val (.int bp), .val (.long ss), .second, .val (.long ch), .second, .val (.long cl), .second, .val (.long (ss >>> ((32 : Int32) &&& 0x3f).toInt64)), .second, .unset, .unset, .unset, .unset, .unset, .unset, .unset, .unset, .unset, .unset] [])) _
    exact k
  generalize hv_sh : (ss >>> ((32 : Int32) &&& 0x3f).toInt64) = sh
  show EndsQ _ _ _ _ _ _ _ (T106.setTop (mkF m 55 #[.val (.long q1), .second, .val (.int p2), .val (.long cc), .second, .val (.int bp), .val (.long ss), .second, .val (.long ch), .second, .val (.long cl), .second, .val (.long sh), .second, .unset, .unset, .unset, .unset, .unset, .unset, .unset, .unset, .unset, .unset] []))
  refine EndsQ.go (b := T106.setTop (mkF m 63 #[.val (.long q1), .second, .val (.int p2), .val (.long cc), .second, .val (.int bp), .val (.long ss), .second, .val (.long ch), .second, .val (.long cl), .second, .val (.long sh), .second, .val (.long (ss &&& (4294967295 : Int64))), .second, .unset, .unset, .unset, .unset, .unset, .unset, .unset, .unset] [])) (fun t k => ?_) ?_
  · show Steps p.tables e below (T106.setTop (mkF m 55 #[.val (.long q1), .second, .val (.int p2), .val (.long cc), .second, .val (.int bp), .val (.long ss), .second, .val (.long ch), .second, .val (.long cl), .second, .val (.long sh), .second, .unset, .unset, .unset, .unset, .unset, .unset, .unset, .unset, .unset, .unset] [])) _
    refine XS.lload X106.here hx rfl (hb hby at_55) rfl ?_
    show Steps p.tables e below (T106.setTop (mkF m 57 #[.val (.long q1), .second, .val (.int p2), .val (.long cc), .second, .val (.int bp), .val (.long ss), .second, .val (.long ch), .second, .val (.long cl), .second, .val (.long sh), .second, .unset, .unset, .unset, .unset, .unset, .unset, .unset, .unset, .unset, .unset] [(.long ss)])) _
    refine X106.ldc2Long hx hown (mvT hZ (hw _ (List.mem_of_getElem? (i := 25) rfl))) (g := (mkF m 57 #[.val (.long q1), .second, .val (.int p2), .val (.long cc), .second, .val (.int bp), .val (.long ss), .second, .val (.long ch), .second, .val (.long cl), .second, .val (.long sh), .second, .unset, .unset, .unset, .unset, .unset, .unset, .unset, .unset, .unset, .unset] [(.long ss)])) rfl (hb hby at_57) _ ?_
    show Steps p.tables e below (T106.setTop (mkF m 60 #[.val (.long q1), .second, .val (.int p2), .val (.long cc), .second, .val (.int bp), .val (.long ss), .second, .val (.long ch), .second, .val (.long cl), .second, .val (.long sh), .second, .unset, .unset, .unset, .unset, .unset, .unset, .unset, .unset, .unset, .unset] [(.long (4294967295 : Int64)), (.long ss)])) _
    refine XS.land X106.here hx rfl (hb hby at_60) rfl ?_
    show Steps p.tables e below (T106.setTop (mkF m 61 #[.val (.long q1), .second, .val (.int p2), .val (.long cc), .second, .val (.int bp), .val (.long ss), .second, .val (.long ch), .second, .val (.long cl), .second, .val (.long sh), .second, .unset, .unset, .unset, .unset, .unset, .unset, .unset, .unset, .unset, .unset] [(.long (ss &&& (4294967295 : Int64)))])) _
    refine XS.lstore X106.here hx rfl (hb hby at_61) rfl (l' := #[.val (.long q1), .second, .val (.int p2), .val (.long cc), .second, .val (.int bp), .val (.long ss), .second, .val (.long ch), .second, .val (.long cl), .second, .val (.long sh), .second, .val (.long (ss &&& (4294967295 : Int64))), .second, .unset, .unset, .unset, .unset, .unset, .unset, .unset, .unset]) rfl ?_
    show Steps p.tables e below (T106.setTop (mkF m 63 #[.val (.long q1), .second, .val (.int p2), .val (.long cc), .second, .val (.int bp), .val (.long ss), .second, .val (.long ch), .second, .val (.long cl), .second, .val (.long sh), .second, .val (.long (ss &&& (4294967295 : Int64))), .second, .unset, .unset, .unset, .unset, .unset, .unset, .unset, .unset] [])) _
    exact k
  generalize hv_sl : (ss &&& (4294967295 : Int64)) = sl
  show EndsQ _ _ _ _ _ _ _ (T106.setTop (mkF m 63 #[.val (.long q1), .second, .val (.int p2), .val (.long cc), .second, .val (.int bp), .val (.long ss), .second, .val (.long ch), .second, .val (.long cl), .second, .val (.long sh), .second, .val (.long sl), .second, .unset, .unset, .unset, .unset, .unset, .unset, .unset, .unset] []))
  refine EndsQ.go (b := T106.setTop (mkF m 78 #[.val (.long q1), .second, .val (.int p2), .val (.long cc), .second, .val (.int bp), .val (.long ss), .second, .val (.long ch), .second, .val (.long cl), .second, .val (.long sh), .second, .val (.long sl), .second, .val (.long ((ch * (bp.toInt64)) - (sh * (10000 : Int64)))), .second, .unset, .unset, .unset, .unset, .unset, .unset] [])) (fun t k => ?_) ?_
  · show Steps p.tables e below (T106.setTop (mkF m 63 #[.val (.long q1), .second, .val (.int p2), .val (.long cc), .second, .val (.int bp), .val (.long ss), .second, .val (.long ch), .second, .val (.long cl), .second, .val (.long sh), .second, .val (.long sl), .second, .unset, .unset, .unset, .unset, .unset, .unset, .unset, .unset] [])) _
    refine XS.lload X106.here hx rfl (hb hby at_63) rfl ?_
    show Steps p.tables e below (T106.setTop (mkF m 65 #[.val (.long q1), .second, .val (.int p2), .val (.long cc), .second, .val (.int bp), .val (.long ss), .second, .val (.long ch), .second, .val (.long cl), .second, .val (.long sh), .second, .val (.long sl), .second, .unset, .unset, .unset, .unset, .unset, .unset, .unset, .unset] [(.long ch)])) _
    refine XS.iload X106.here hx rfl (hb hby at_65) rfl ?_
    show Steps p.tables e below (T106.setTop (mkF m 67 #[.val (.long q1), .second, .val (.int p2), .val (.long cc), .second, .val (.int bp), .val (.long ss), .second, .val (.long ch), .second, .val (.long cl), .second, .val (.long sh), .second, .val (.long sl), .second, .unset, .unset, .unset, .unset, .unset, .unset, .unset, .unset] [(.int bp), (.long ch)])) _
    refine XS.i2l X106.here hx rfl (hb hby at_67) rfl ?_
    show Steps p.tables e below (T106.setTop (mkF m 68 #[.val (.long q1), .second, .val (.int p2), .val (.long cc), .second, .val (.int bp), .val (.long ss), .second, .val (.long ch), .second, .val (.long cl), .second, .val (.long sh), .second, .val (.long sl), .second, .unset, .unset, .unset, .unset, .unset, .unset, .unset, .unset] [(.long (bp.toInt64)), (.long ch)])) _
    refine XS.lmul X106.here hx rfl (hb hby at_68) rfl ?_
    show Steps p.tables e below (T106.setTop (mkF m 69 #[.val (.long q1), .second, .val (.int p2), .val (.long cc), .second, .val (.int bp), .val (.long ss), .second, .val (.long ch), .second, .val (.long cl), .second, .val (.long sh), .second, .val (.long sl), .second, .unset, .unset, .unset, .unset, .unset, .unset, .unset, .unset] [(.long (ch * (bp.toInt64)))])) _
    refine XS.lload X106.here hx rfl (hb hby at_69) rfl ?_
    show Steps p.tables e below (T106.setTop (mkF m 71 #[.val (.long q1), .second, .val (.int p2), .val (.long cc), .second, .val (.int bp), .val (.long ss), .second, .val (.long ch), .second, .val (.long cl), .second, .val (.long sh), .second, .val (.long sl), .second, .unset, .unset, .unset, .unset, .unset, .unset, .unset, .unset] [(.long sh), (.long (ch * (bp.toInt64)))])) _
    refine X106.ldc2Long hx hown (mvT hZ (hw _ (List.mem_of_getElem? (i := 26) rfl))) (g := (mkF m 71 #[.val (.long q1), .second, .val (.int p2), .val (.long cc), .second, .val (.int bp), .val (.long ss), .second, .val (.long ch), .second, .val (.long cl), .second, .val (.long sh), .second, .val (.long sl), .second, .unset, .unset, .unset, .unset, .unset, .unset, .unset, .unset] [(.long sh), (.long (ch * (bp.toInt64)))])) rfl (hb hby at_71) _ ?_
    show Steps p.tables e below (T106.setTop (mkF m 74 #[.val (.long q1), .second, .val (.int p2), .val (.long cc), .second, .val (.int bp), .val (.long ss), .second, .val (.long ch), .second, .val (.long cl), .second, .val (.long sh), .second, .val (.long sl), .second, .unset, .unset, .unset, .unset, .unset, .unset, .unset, .unset] [(.long (10000 : Int64)), (.long sh), (.long (ch * (bp.toInt64)))])) _
    refine XS.lmul X106.here hx rfl (hb hby at_74) rfl ?_
    show Steps p.tables e below (T106.setTop (mkF m 75 #[.val (.long q1), .second, .val (.int p2), .val (.long cc), .second, .val (.int bp), .val (.long ss), .second, .val (.long ch), .second, .val (.long cl), .second, .val (.long sh), .second, .val (.long sl), .second, .unset, .unset, .unset, .unset, .unset, .unset, .unset, .unset] [(.long (sh * (10000 : Int64))), (.long (ch * (bp.toInt64)))])) _
    refine XS.lsub X106.here hx rfl (hb hby at_75) rfl ?_
    show Steps p.tables e below (T106.setTop (mkF m 76 #[.val (.long q1), .second, .val (.int p2), .val (.long cc), .second, .val (.int bp), .val (.long ss), .second, .val (.long ch), .second, .val (.long cl), .second, .val (.long sh), .second, .val (.long sl), .second, .unset, .unset, .unset, .unset, .unset, .unset, .unset, .unset] [(.long ((ch * (bp.toInt64)) - (sh * (10000 : Int64))))])) _
    refine XS.lstore X106.here hx rfl (hb hby at_76) rfl (l' := #[.val (.long q1), .second, .val (.int p2), .val (.long cc), .second, .val (.int bp), .val (.long ss), .second, .val (.long ch), .second, .val (.long cl), .second, .val (.long sh), .second, .val (.long sl), .second, .val (.long ((ch * (bp.toInt64)) - (sh * (10000 : Int64)))), .second, .unset, .unset, .unset, .unset, .unset, .unset]) rfl ?_
    show Steps p.tables e below (T106.setTop (mkF m 78 #[.val (.long q1), .second, .val (.int p2), .val (.long cc), .second, .val (.int bp), .val (.long ss), .second, .val (.long ch), .second, .val (.long cl), .second, .val (.long sh), .second, .val (.long sl), .second, .val (.long ((ch * (bp.toInt64)) - (sh * (10000 : Int64)))), .second, .unset, .unset, .unset, .unset, .unset, .unset] [])) _
    exact k
  generalize hv_hi : ((ch * (bp.toInt64)) - (sh * (10000 : Int64))) = hi
  show EndsQ _ _ _ _ _ _ _ (T106.setTop (mkF m 78 #[.val (.long q1), .second, .val (.int p2), .val (.long cc), .second, .val (.int bp), .val (.long ss), .second, .val (.long ch), .second, .val (.long cl), .second, .val (.long sh), .second, .val (.long sl), .second, .val (.long hi), .second, .unset, .unset, .unset, .unset, .unset, .unset] []))
  refine EndsQ.go (b := T106.setTop (mkF m 93 #[.val (.long q1), .second, .val (.int p2), .val (.long cc), .second, .val (.int bp), .val (.long ss), .second, .val (.long ch), .second, .val (.long cl), .second, .val (.long sh), .second, .val (.long sl), .second, .val (.long hi), .second, .val (.long ((cl * (bp.toInt64)) - (sl * (10000 : Int64)))), .second, .unset, .unset, .unset, .unset] [])) (fun t k => ?_) ?_
  · show Steps p.tables e below (T106.setTop (mkF m 78 #[.val (.long q1), .second, .val (.int p2), .val (.long cc), .second, .val (.int bp), .val (.long ss), .second, .val (.long ch), .second, .val (.long cl), .second, .val (.long sh), .second, .val (.long sl), .second, .val (.long hi), .second, .unset, .unset, .unset, .unset, .unset, .unset] [])) _
    refine XS.lload X106.here hx rfl (hb hby at_78) rfl ?_
    show Steps p.tables e below (T106.setTop (mkF m 80 #[.val (.long q1), .second, .val (.int p2), .val (.long cc), .second, .val (.int bp), .val (.long ss), .second, .val (.long ch), .second, .val (.long cl), .second, .val (.long sh), .second, .val (.long sl), .second, .val (.long hi), .second, .unset, .unset, .unset, .unset, .unset, .unset] [(.long cl)])) _
    refine XS.iload X106.here hx rfl (hb hby at_80) rfl ?_
    show Steps p.tables e below (T106.setTop (mkF m 82 #[.val (.long q1), .second, .val (.int p2), .val (.long cc), .second, .val (.int bp), .val (.long ss), .second, .val (.long ch), .second, .val (.long cl), .second, .val (.long sh), .second, .val (.long sl), .second, .val (.long hi), .second, .unset, .unset, .unset, .unset, .unset, .unset] [(.int bp), (.long cl)])) _
    refine XS.i2l X106.here hx rfl (hb hby at_82) rfl ?_
    show Steps p.tables e below (T106.setTop (mkF m 83 #[.val (.long q1), .second, .val (.int p2), .val (.long cc), .second, .val (.int bp), .val (.long ss), .second, .val (.long ch), .second, .val (.long cl), .second, .val (.long sh), .second, .val (.long sl), .second, .val (.long hi), .second, .unset, .unset, .unset, .unset, .unset, .unset] [(.long (bp.toInt64)), (.long cl)])) _
    refine XS.lmul X106.here hx rfl (hb hby at_83) rfl ?_
    show Steps p.tables e below (T106.setTop (mkF m 84 #[.val (.long q1), .second, .val (.int p2), .val (.long cc), .second, .val (.int bp), .val (.long ss), .second, .val (.long ch), .second, .val (.long cl), .second, .val (.long sh), .second, .val (.long sl), .second, .val (.long hi), .second, .unset, .unset, .unset, .unset, .unset, .unset] [(.long (cl * (bp.toInt64)))])) _
    refine XS.lload X106.here hx rfl (hb hby at_84) rfl ?_
    show Steps p.tables e below (T106.setTop (mkF m 86 #[.val (.long q1), .second, .val (.int p2), .val (.long cc), .second, .val (.int bp), .val (.long ss), .second, .val (.long ch), .second, .val (.long cl), .second, .val (.long sh), .second, .val (.long sl), .second, .val (.long hi), .second, .unset, .unset, .unset, .unset, .unset, .unset] [(.long sl), (.long (cl * (bp.toInt64)))])) _
    refine X106.ldc2Long hx hown (mvT hZ (hw _ (List.mem_of_getElem? (i := 26) rfl))) (g := (mkF m 86 #[.val (.long q1), .second, .val (.int p2), .val (.long cc), .second, .val (.int bp), .val (.long ss), .second, .val (.long ch), .second, .val (.long cl), .second, .val (.long sh), .second, .val (.long sl), .second, .val (.long hi), .second, .unset, .unset, .unset, .unset, .unset, .unset] [(.long sl), (.long (cl * (bp.toInt64)))])) rfl (hb hby at_86) _ ?_
    show Steps p.tables e below (T106.setTop (mkF m 89 #[.val (.long q1), .second, .val (.int p2), .val (.long cc), .second, .val (.int bp), .val (.long ss), .second, .val (.long ch), .second, .val (.long cl), .second, .val (.long sh), .second, .val (.long sl), .second, .val (.long hi), .second, .unset, .unset, .unset, .unset, .unset, .unset] [(.long (10000 : Int64)), (.long sl), (.long (cl * (bp.toInt64)))])) _
    refine XS.lmul X106.here hx rfl (hb hby at_89) rfl ?_
    show Steps p.tables e below (T106.setTop (mkF m 90 #[.val (.long q1), .second, .val (.int p2), .val (.long cc), .second, .val (.int bp), .val (.long ss), .second, .val (.long ch), .second, .val (.long cl), .second, .val (.long sh), .second, .val (.long sl), .second, .val (.long hi), .second, .unset, .unset, .unset, .unset, .unset, .unset] [(.long (sl * (10000 : Int64))), (.long (cl * (bp.toInt64)))])) _
    refine XS.lsub X106.here hx rfl (hb hby at_90) rfl ?_
    show Steps p.tables e below (T106.setTop (mkF m 91 #[.val (.long q1), .second, .val (.int p2), .val (.long cc), .second, .val (.int bp), .val (.long ss), .second, .val (.long ch), .second, .val (.long cl), .second, .val (.long sh), .second, .val (.long sl), .second, .val (.long hi), .second, .unset, .unset, .unset, .unset, .unset, .unset] [(.long ((cl * (bp.toInt64)) - (sl * (10000 : Int64))))])) _
    refine XS.lstore X106.here hx rfl (hb hby at_91) rfl (l' := #[.val (.long q1), .second, .val (.int p2), .val (.long cc), .second, .val (.int bp), .val (.long ss), .second, .val (.long ch), .second, .val (.long cl), .second, .val (.long sh), .second, .val (.long sl), .second, .val (.long hi), .second, .val (.long ((cl * (bp.toInt64)) - (sl * (10000 : Int64)))), .second, .unset, .unset, .unset, .unset]) rfl ?_
    show Steps p.tables e below (T106.setTop (mkF m 93 #[.val (.long q1), .second, .val (.int p2), .val (.long cc), .second, .val (.int bp), .val (.long ss), .second, .val (.long ch), .second, .val (.long cl), .second, .val (.long sh), .second, .val (.long sl), .second, .val (.long hi), .second, .val (.long ((cl * (bp.toInt64)) - (sl * (10000 : Int64)))), .second, .unset, .unset, .unset, .unset] [])) _
    exact k
  generalize hv_lo : ((cl * (bp.toInt64)) - (sl * (10000 : Int64))) = lo
  show EndsQ _ _ _ _ _ _ _ (T106.setTop (mkF m 93 #[.val (.long q1), .second, .val (.int p2), .val (.long cc), .second, .val (.int bp), .val (.long ss), .second, .val (.long ch), .second, .val (.long cl), .second, .val (.long sh), .second, .val (.long sl), .second, .val (.long hi), .second, .val (.long lo), .second, .unset, .unset, .unset, .unset] []))
  refine EndsQ.go (b := T106.setTop (mkF m 103 #[.val (.long q1), .second, .val (.int p2), .val (.long cc), .second, .val (.int bp), .val (.long ss), .second, .val (.long ch), .second, .val (.long cl), .second, .val (.long sh), .second, .val (.long sl), .second, .val (.long hi), .second, .val (.long lo), .second, .val (.long (hi + (lo >>> ((32 : Int32) &&& 0x3f).toInt64))), .second, .unset, .unset] [])) (fun t k => ?_) ?_
  · show Steps p.tables e below (T106.setTop (mkF m 93 #[.val (.long q1), .second, .val (.int p2), .val (.long cc), .second, .val (.int bp), .val (.long ss), .second, .val (.long ch), .second, .val (.long cl), .second, .val (.long sh), .second, .val (.long sl), .second, .val (.long hi), .second, .val (.long lo), .second, .unset, .unset, .unset, .unset] [])) _
    refine XS.lload X106.here hx rfl (hb hby at_93) rfl ?_
    show Steps p.tables e below (T106.setTop (mkF m 95 #[.val (.long q1), .second, .val (.int p2), .val (.long cc), .second, .val (.int bp), .val (.long ss), .second, .val (.long ch), .second, .val (.long cl), .second, .val (.long sh), .second, .val (.long sl), .second, .val (.long hi), .second, .val (.long lo), .second, .unset, .unset, .unset, .unset] [(.long hi)])) _
    refine XS.lload X106.here hx rfl (hb hby at_95) rfl ?_
    show Steps p.tables e below (T106.setTop (mkF m 97 #[.val (.long q1), .second, .val (.int p2), .val (.long cc), .second, .val (.int bp), .val (.long ss), .second, .val (.long ch), .second, .val (.long cl), .second, .val (.long sh), .second, .val (.long sl), .second, .val (.long hi), .second, .val (.long lo), .second, .unset, .unset, .unset, .unset] [(.long lo), (.long hi)])) _
    refine XS.bipush X106.here hx rfl (hb hby at_97) ?_
    show Steps p.tables e below (T106.setTop (mkF m 99 #[.val (.long q1), .second, .val (.int p2), .val (.long cc), .second, .val (.int bp), .val (.long ss), .second, .val (.long ch), .second, .val (.long cl), .second, .val (.long sh), .second, .val (.long sl), .second, .val (.long hi), .second, .val (.long lo), .second, .unset, .unset, .unset, .unset] [(.int (32 : Int32)), (.long lo), (.long hi)])) _
    refine XS.lshr X106.here hx rfl (hb hby at_99) rfl ?_
    show Steps p.tables e below (T106.setTop (mkF m 100 #[.val (.long q1), .second, .val (.int p2), .val (.long cc), .second, .val (.int bp), .val (.long ss), .second, .val (.long ch), .second, .val (.long cl), .second, .val (.long sh), .second, .val (.long sl), .second, .val (.long hi), .second, .val (.long lo), .second, .unset, .unset, .unset, .unset] [(.long (lo >>> ((32 : Int32) &&& 0x3f).toInt64)), (.long hi)])) _
    refine XS.ladd X106.here hx rfl (hb hby at_100) rfl ?_
    show Steps p.tables e below (T106.setTop (mkF m 101 #[.val (.long q1), .second, .val (.int p2), .val (.long cc), .second, .val (.int bp), .val (.long ss), .second, .val (.long ch), .second, .val (.long cl), .second, .val (.long sh), .second, .val (.long sl), .second, .val (.long hi), .second, .val (.long lo), .second, .unset, .unset, .unset, .unset] [(.long (hi + (lo >>> ((32 : Int32) &&& 0x3f).toInt64)))])) _
    refine XS.lstore X106.here hx rfl (hb hby at_101) rfl (l' := #[.val (.long q1), .second, .val (.int p2), .val (.long cc), .second, .val (.int bp), .val (.long ss), .second, .val (.long ch), .second, .val (.long cl), .second, .val (.long sh), .second, .val (.long sl), .second, .val (.long hi), .second, .val (.long lo), .second, .val (.long (hi + (lo >>> ((32 : Int32) &&& 0x3f).toInt64))), .second, .unset, .unset]) rfl ?_
    show Steps p.tables e below (T106.setTop (mkF m 103 #[.val (.long q1), .second, .val (.int p2), .val (.long cc), .second, .val (.int bp), .val (.long ss), .second, .val (.long ch), .second, .val (.long cl), .second, .val (.long sh), .second, .val (.long sl), .second, .val (.long hi), .second, .val (.long lo), .second, .val (.long (hi + (lo >>> ((32 : Int32) &&& 0x3f).toInt64))), .second, .unset, .unset] [])) _
    exact k
  generalize hv_nh : (hi + (lo >>> ((32 : Int32) &&& 0x3f).toInt64)) = nh
  show EndsQ _ _ _ _ _ _ _ (T106.setTop (mkF m 103 #[.val (.long q1), .second, .val (.int p2), .val (.long cc), .second, .val (.int bp), .val (.long ss), .second, .val (.long ch), .second, .val (.long cl), .second, .val (.long sh), .second, .val (.long sl), .second, .val (.long hi), .second, .val (.long lo), .second, .val (.long nh), .second, .unset, .unset] []))
  refine EndsQ.go (b := T106.setTop (mkF m 111 #[.val (.long q1), .second, .val (.int p2), .val (.long cc), .second, .val (.int bp), .val (.long ss), .second, .val (.long ch), .second, .val (.long cl), .second, .val (.long sh), .second, .val (.long sl), .second, .val (.long hi), .second, .val (.long lo), .second, .val (.long nh), .second, .val (.long (lo &&& (4294967295 : Int64))), .second] [])) (fun t k => ?_) ?_
  · show Steps p.tables e below (T106.setTop (mkF m 103 #[.val (.long q1), .second, .val (.int p2), .val (.long cc), .second, .val (.int bp), .val (.long ss), .second, .val (.long ch), .second, .val (.long cl), .second, .val (.long sh), .second, .val (.long sl), .second, .val (.long hi), .second, .val (.long lo), .second, .val (.long nh), .second, .unset, .unset] [])) _
    refine XS.lload X106.here hx rfl (hb hby at_103) rfl ?_
    show Steps p.tables e below (T106.setTop (mkF m 105 #[.val (.long q1), .second, .val (.int p2), .val (.long cc), .second, .val (.int bp), .val (.long ss), .second, .val (.long ch), .second, .val (.long cl), .second, .val (.long sh), .second, .val (.long sl), .second, .val (.long hi), .second, .val (.long lo), .second, .val (.long nh), .second, .unset, .unset] [(.long lo)])) _
    refine X106.ldc2Long hx hown (mvT hZ (hw _ (List.mem_of_getElem? (i := 25) rfl))) (g := (mkF m 105 #[.val (.long q1), .second, .val (.int p2), .val (.long cc), .second, .val (.int bp), .val (.long ss), .second, .val (.long ch), .second, .val (.long cl), .second, .val (.long sh), .second, .val (.long sl), .second, .val (.long hi), .second, .val (.long lo), .second, .val (.long nh), .second, .unset, .unset] [(.long lo)])) rfl (hb hby at_105) _ ?_
    show Steps p.tables e below (T106.setTop (mkF m 108 #[.val (.long q1), .second, .val (.int p2), .val (.long cc), .second, .val (.int bp), .val (.long ss), .second, .val (.long ch), .second, .val (.long cl), .second, .val (.long sh), .second, .val (.long sl), .second, .val (.long hi), .second, .val (.long lo), .second, .val (.long nh), .second, .unset, .unset] [(.long (4294967295 : Int64)), (.long lo)])) _
    refine XS.land X106.here hx rfl (hb hby at_108) rfl ?_
    show Steps p.tables e below (T106.setTop (mkF m 109 #[.val (.long q1), .second, .val (.int p2), .val (.long cc), .second, .val (.int bp), .val (.long ss), .second, .val (.long ch), .second, .val (.long cl), .second, .val (.long sh), .second, .val (.long sl), .second, .val (.long hi), .second, .val (.long lo), .second, .val (.long nh), .second, .unset, .unset] [(.long (lo &&& (4294967295 : Int64)))])) _
    refine XS.lstore X106.here hx rfl (hb hby at_109) rfl (l' := #[.val (.long q1), .second, .val (.int p2), .val (.long cc), .second, .val (.int bp), .val (.long ss), .second, .val (.long ch), .second, .val (.long cl), .second, .val (.long sh), .second, .val (.long sl), .second, .val (.long hi), .second, .val (.long lo), .second, .val (.long nh), .second, .val (.long (lo &&& (4294967295 : Int64))), .second]) rfl ?_
    show Steps p.tables e below (T106.setTop (mkF m 111 #[.val (.long q1), .second, .val (.int p2), .val (.long cc), .second, .val (.int bp), .val (.long ss), .second, .val (.long ch), .second, .val (.long cl), .second, .val (.long sh), .second, .val (.long sl), .second, .val (.long hi), .second, .val (.long lo), .second, .val (.long nh), .second, .val (.long (lo &&& (4294967295 : Int64))), .second] [])) _
    exact k
  generalize hv_nl : (lo &&& (4294967295 : Int64)) = nl
  have hf := own_fin hb_c hb_b hs hv_ch hv_cl hv_sh hv_sl hv_hi hv_lo hv_nh hv_nl
  show EndsQ _ _ _ _ _ _ _ (T106.setTop (mkF m 111 #[.val (.long q1), .second, .val (.int p2), .val (.long cc), .second, .val (.int bp), .val (.long ss), .second, .val (.long ch), .second, .val (.long cl), .second, .val (.long sh), .second, .val (.long sl), .second, .val (.long hi), .second, .val (.long lo), .second, .val (.long nh), .second, .val (.long nl), .second] []))
  refine EndsQ.go (b := T106.setTop (mkF m 132 #[.val (.long q1), .second, .val (.int p2), .val (.long cc), .second, .val (.int bp), .val (.long ss), .second, .val (.long ch), .second, .val (.long cl), .second, .val (.long sh), .second, .val (.long sl), .second, .val (.long hi), .second, .val (.long lo), .second, .val (.long nh), .second, .val (.long nl), .second] [(.int (1 : Int32))])) (fun t k => ?_) ?_
  · show Steps p.tables e below (T106.setTop (mkF m 111 #[.val (.long q1), .second, .val (.int p2), .val (.long cc), .second, .val (.int bp), .val (.long ss), .second, .val (.long ch), .second, .val (.long cl), .second, .val (.long sh), .second, .val (.long sl), .second, .val (.long hi), .second, .val (.long lo), .second, .val (.long nh), .second, .val (.long nl), .second] [])) _
    refine XS.lload X106.here hx rfl (hb hby at_111) rfl ?_
    show Steps p.tables e below (T106.setTop (mkF m 113 #[.val (.long q1), .second, .val (.int p2), .val (.long cc), .second, .val (.int bp), .val (.long ss), .second, .val (.long ch), .second, .val (.long cl), .second, .val (.long sh), .second, .val (.long sl), .second, .val (.long hi), .second, .val (.long lo), .second, .val (.long nh), .second, .val (.long nl), .second] [(.long nh)])) _
    refine XS.lconst X106.here hx rfl (hb hby at_113) ?_
    show Steps p.tables e below (T106.setTop (mkF m 114 #[.val (.long q1), .second, .val (.int p2), .val (.long cc), .second, .val (.int bp), .val (.long ss), .second, .val (.long ch), .second, .val (.long cl), .second, .val (.long sh), .second, .val (.long sl), .second, .val (.long hi), .second, .val (.long lo), .second, .val (.long nh), .second, .val (.long nl), .second] [(.long (0 : Int64)), (.long nh)])) _
    refine XS.lcmp X106.here hx rfl (hb hby at_114) rfl ?_
    show Steps p.tables e below (T106.setTop (mkF m 115 #[.val (.long q1), .second, .val (.int p2), .val (.long cc), .second, .val (.int bp), .val (.long ss), .second, .val (.long ch), .second, .val (.long cl), .second, .val (.long sh), .second, .val (.long sl), .second, .val (.long hi), .second, .val (.long lo), .second, .val (.long nh), .second, .val (.long nl), .second] [(.int (lcmpW nh (0 : Int64)))])) _
    refine XS.ifNo X106.here hx rfl (hb hby at_115) rfl ((if0 _ _).trans (teq ((lw_eq nh (0 : Int64)).mpr hf.1)).2) ?_
    show Steps p.tables e below (T106.setTop (mkF m 118 #[.val (.long q1), .second, .val (.int p2), .val (.long cc), .second, .val (.int bp), .val (.long ss), .second, .val (.long ch), .second, .val (.long cl), .second, .val (.long sh), .second, .val (.long sl), .second, .val (.long hi), .second, .val (.long lo), .second, .val (.long nh), .second, .val (.long nl), .second] [])) _
    refine XS.lload X106.here hx rfl (hb hby at_118) rfl ?_
    show Steps p.tables e below (T106.setTop (mkF m 120 #[.val (.long q1), .second, .val (.int p2), .val (.long cc), .second, .val (.int bp), .val (.long ss), .second, .val (.long ch), .second, .val (.long cl), .second, .val (.long sh), .second, .val (.long sl), .second, .val (.long hi), .second, .val (.long lo), .second, .val (.long nh), .second, .val (.long nl), .second] [(.long nl)])) _
    refine X106.ldc2Long hx hown (mvT hZ (hw _ (List.mem_of_getElem? (i := 27) rfl))) (g := (mkF m 120 #[.val (.long q1), .second, .val (.int p2), .val (.long cc), .second, .val (.int bp), .val (.long ss), .second, .val (.long ch), .second, .val (.long cl), .second, .val (.long sh), .second, .val (.long sl), .second, .val (.long hi), .second, .val (.long lo), .second, .val (.long nh), .second, .val (.long nl), .second] [(.long nl)])) rfl (hb hby at_120) _ ?_
    show Steps p.tables e below (T106.setTop (mkF m 123 #[.val (.long q1), .second, .val (.int p2), .val (.long cc), .second, .val (.int bp), .val (.long ss), .second, .val (.long ch), .second, .val (.long cl), .second, .val (.long sh), .second, .val (.long sl), .second, .val (.long hi), .second, .val (.long lo), .second, .val (.long nh), .second, .val (.long nl), .second] [(.long (9999 : Int64)), (.long nl)])) _
    refine XS.lcmp X106.here hx rfl (hb hby at_123) rfl ?_
    show Steps p.tables e below (T106.setTop (mkF m 124 #[.val (.long q1), .second, .val (.int p2), .val (.long cc), .second, .val (.int bp), .val (.long ss), .second, .val (.long ch), .second, .val (.long cl), .second, .val (.long sh), .second, .val (.long sl), .second, .val (.long hi), .second, .val (.long lo), .second, .val (.long nh), .second, .val (.long nl), .second] [(.int (lcmpW nl (9999 : Int64)))])) _
    refine XS.ifNo X106.here hx rfl (hb hby at_124) rfl ((if0 _ _).trans (flt (fun q => hf.2 ((lw_gt nl (9999 : Int64)).mp q))).2.2.1) ?_
    show Steps p.tables e below (T106.setTop (mkF m 127 #[.val (.long q1), .second, .val (.int p2), .val (.long cc), .second, .val (.int bp), .val (.long ss), .second, .val (.long ch), .second, .val (.long cl), .second, .val (.long sh), .second, .val (.long sl), .second, .val (.long hi), .second, .val (.long lo), .second, .val (.long nh), .second, .val (.long nl), .second] [])) _
    refine XS.iconst X106.here hx rfl (hb hby at_127) ?_
    show Steps p.tables e below (T106.setTop (mkF m 128 #[.val (.long q1), .second, .val (.int p2), .val (.long cc), .second, .val (.int bp), .val (.long ss), .second, .val (.long ch), .second, .val (.long cl), .second, .val (.long sh), .second, .val (.long sl), .second, .val (.long hi), .second, .val (.long lo), .second, .val (.long nh), .second, .val (.long nl), .second] [(.int (1 : Int32))])) _
    refine XS.goto X106.here hx rfl (pc0 := 128) (pc' := 132) rfl (hb hby at_128) (by decide) (by decide) ?_
    show Steps p.tables e below (T106.setTop (mkF m 132 #[.val (.long q1), .second, .val (.int p2), .val (.long cc), .second, .val (.int bp), .val (.long ss), .second, .val (.long ch), .second, .val (.long cl), .second, .val (.long sh), .second, .val (.long sl), .second, .val (.long hi), .second, .val (.long lo), .second, .val (.long nh), .second, .val (.long nl), .second] [(.int (1 : Int32))])) _
    exact k
  refine EndsQ.retN X106 hx Bd.notSynchronized (t := .boolean) Bd.returns (by simp) (hb hby at_132) (by decide) (by decide) ?_
  show Q0 Z q1 p2 h0 n0 (some (.int (nar .boolean (1 : Int32)))) T106.heap _
  rw [eq106]
  exact ⟨rfl, N106⟩
set_option maxRecDepth 65536 in
set_option maxHeartbeats 40000000 in
theorem comes_1 {Post : Tables → Env → Array Value → State → Outcome → State → Prop} (hpost : ∀ tb e args s v u, (limb_1_1.after args s (.returned v) u = true ∧ limb_1_2.after args s (.returned v) u = true ∧ True) → FrameEnd s (.returned v) u (Jvm.fieldLocs frame_1_writes args s ++ Jvm.arrayLocs frame_1_arrays args s ++ Jvm.staticLocs frame_1_statics s) 16 128 → Post tb e args s (.returned v) u) :
    ArmFor flags0 classFile x code maxLocals ret World_1 tables_1 room_1 Calls_1 rest_1 Pre_1 Post := by
  intro l hfl _ _ p e ha hc hk s m args below hf hA hF happ hP
  obtain ⟨hcalls, hrest, hpre⟩ := hP
  obtain ⟨-, -, -, hnamed, -, -, -, hat⟩ := (Spec.applies_iff hf).mp happ
  obtain ⟨hg, hn⟩ := and_e (Cond.before_iff.mp (show (Jvm.Cond.and given_1 narrow_1).before args s = true from hpre))
  obtain ⟨g1a, g1b⟩ := and_e hg
  obtain ⟨g2a, g2b⟩ := and_e g1b
  obtain ⟨w0, w1, rfl⟩ : ∃ w0 w1 : Value, args = #[w0, w1] := by
    have hs : args.size = 2 := by simpa [Cond.value, given_1] using g1a
    obtain ⟨L⟩ := args
    match L, hs with
    | [w0, w1], _ => exact ⟨w0, w1, rfl⟩
  have hw := fun d (hd : d ∈ tables_1) => atoms_spec (ws := Jvm.Cond.code x code maxLocals ret :: tables_1) hat d (List.mem_cons_of_mem _ hd)
  have hfit : Fit s := fun {y c} hc i hi => by
    obtain ⟨ha, rfl⟩ := Array.getElem?_eq_some_iff.mp hc
    have q := List.all_eq_true.mp ((Array.all_eq_true_iff_forall_mem.mp hF) _ (Array.getElem_mem ha)) i (List.mem_range.mpr hi)
    simpa [Array.getElem?_eq_getElem hi] using q
  obtain ⟨i0, ei0⟩ := isL_v g2a
  obtain rfl : w0 = (.long i0) := Option.some.inj ei0
  obtain ⟨i1, ei1⟩ := is_v g2b
  obtain rfl : w1 = (.int i1) := Option.some.inj ei1
  obtain ⟨n, o, h1, h2, h3, _, L, rfl, ⟨rfl, N⟩, hq⟩ := rm0 l s _ hw tables_1 i0 i1 s.heap s.heap.size (Nat.le_refl _) p e ha hc hk s m _ below hf ((Spec.applies_iff_loose hf).mp happ).1 ⟨rfl, State.Warmed39.refl s, rfl⟩ trivial
  refine ⟨n, _, h1, h2, h3, hpost _ _ _ _ _ _ ⟨Cond.after_iff.mpr rfl, Cond.after_iff.mpr (eq_i res_at (Term.int_eval (1)) rfl), trivial⟩ ⟨hq.1, hq.2.1, (hq.2.2.sift fun y hy => Or.inr (N y hy)).mono (by decide) (by decide)⟩⟩
theorem main_1_1 : Claimed_1_1 := comes_1 fun _ _ _ _ _ _ h hF => ⟨h.1, hF⟩
theorem main_1_2 : Claimed_1_2 := comes_1 fun _ _ _ _ _ _ h hF => ⟨h.2.1, hF⟩
end Jvm.Pilot.@@N@@
namespace Jvm.Pilot.@@N@@
open Jvm Jvm.ClassFile Sem Op Lib Jvm.Free Jvm.Stand Jvm.Pilot.@@N@@.Jvm.D
/-! MADE BY PROGRAM (witnessworld.py) out of the Statement's table words and the real class files: 10 classes; the members and pool entries that the words name. The judged class is class 1, her method 1. -/
namespace start1
open Jvm.ClassFile
def u (s : String) : CpInfo := .utf8 (stringToUtf16 s)
/-- a pool by its gaps: so many unusable entries, then the entry; so many at the end -/
def gap : Nat → List CpInfo → List CpInfo
  | 0, r => r
  | n + 1, r => .unusable :: gap n r
def poolList (es : List (Nat × CpInfo)) (last : Nat) : List CpInfo := es.foldr (fun e r => gap e.1 (e.2 :: r)) (gap last [])
def pool (es : List (Nat × CpInfo)) (last : Nat) : Array CpInfo := ⟨poolList es last⟩
def fileOf (pool : Array CpInfo) (this : Nat) (attrs : Array Attribute := #[]) (ms : Array MethodInfo := #[]) (fl : Nat := 33) (sup : Nat := 0) (ifs : Array Nat := #[]) (fds : Array FieldInfo := #[]) : ClassFile where
  minorVersion := 0
  majorVersion := 65
  constantPool := pool
  accessFlags := fl
  thisClass := this
  superClass := sup
  interfaces := ifs
  fields := fds
  methods := ms
  attributes := attrs
def plain (name : String) (sup : Option ClassId) : Class where
  name := name
  kind := .ordinary
  loader := none
  accessFlags := 33
  super := sup
  interfaces := #[]
  cf := none
  fields := #[]
  methods := #[]
  instanceTypes := #[]
  staticTypes := #[]
  resolved := #[]
  callSites := []
  init := .initialized
  statics := none
  mirror := none

def pool0 : Array CpInfo := pool [(5, u "<init>"), (0, u "()V"), (1, .class_ 10), (1, u "java/lang/Object")] 113

def k0c0 : Code := { maxStack := 0, maxLocals := 1, code := object_method_1_code, exceptionTable := #[], attributes := #[] }
def k0m0 : Method := { name := "<init>", desc := "()V", sig := { parameters := [], returnType := none }, accessFlags := 1, code := some k0c0 }
/-- java/lang/Object -/
def k0 : Class := { plain "java/lang/Object" none with
  accessFlags := 33
  interfaces := #[]
  cf := some (fileOf pool0 8 #[] #[{ accessFlags := 1, nameIndex := 5, descriptorIndex := 6, attributes := #[] }] 33 0 #[] #[])
  fields := #[]
  methods := #[k0m0]
  instanceTypes := #[]
  staticTypes := #[]
  resolved := Array.replicate 124 none
  statics := none }

def pool1 : Array CpInfo := pool [(2, .class_ 4), (1, u "java/lang/Object"), (0, u "<init>"), (0, u "()V"), (2, .long 9223372036854775807), (3, .long 100000000000000000), (1, .integer 2147483647), (0, .class_ 17), (0, u "com/example/lossfall/lossfall/model/Percentage"), (0, .methodref 16 19), (0, .nameAndType 5 20), (0, u "(I)V"), (0, .methodref 16 22), (0, .nameAndType 23 24), (0, u "shareOf"), (0, u "(J)J"), (0, .long 4294967295), (1, .long 10000), (1, .long 9999), (1, .class_ 32), (0, u "com/example/lossfall/lossfall/model/PercentageShareOfPinLaw"), (2, u "law"), (0, u "(JI)Z")] 3

def k1m0 : Method := { name := "<init>", desc := "()V", sig := { parameters := [], returnType := none }, accessFlags := 1, code := none }
def k1c1 : Code := { maxStack := 6, maxLocals := 24, code := code, exceptionTable := #[], attributes := #[] }
def k1m1 : Method := { name := "law", desc := "(JI)Z", sig := { parameters := [.long, .int], returnType := some .boolean }, accessFlags := 9, code := some k1c1 }
/-- com/example/lossfall/lossfall/model/PercentageShareOfPinLaw -/
def k1 : Class := { plain "com/example/lossfall/lossfall/model/PercentageShareOfPinLaw" (some 0) with
  accessFlags := 49
  interfaces := #[]
  cf := some (fileOf pool1 31 #[] #[{ accessFlags := 1, nameIndex := 5, descriptorIndex := 6, attributes := #[] }, { accessFlags := 9, nameIndex := 35, descriptorIndex := 36, attributes := #[] }] 49 2 #[] #[])
  fields := #[]
  methods := #[k1m0, k1m1]
  instanceTypes := #[]
  staticTypes := #[]
  resolved := Array.replicate 40 none
  statics := none }

def pool2 : Array CpInfo := pool [(1, .methodref 2 3), (0, .class_ 4), (0, .nameAndType 5 6), (0, u "java/lang/Object"), (0, u "<init>"), (0, u "()V"), (0, .class_ 8), (0, u "java/lang/Record")] 13

def k2c0 : Code := { maxStack := 1, maxLocals := 1, code := jdk_30_method_1_code, exceptionTable := #[], attributes := #[] }
def k2m0 : Method := { name := "<init>", desc := "()V", sig := { parameters := [], returnType := none }, accessFlags := 4, code := some k2c0 }
/-- java/lang/Record -/
def k2 : Class := { plain "java/lang/Record" (some 0) with
  accessFlags := 1057
  interfaces := #[]
  cf := some (fileOf pool2 7 #[] #[{ accessFlags := 4, nameIndex := 5, descriptorIndex := 6, attributes := #[] }] 1057 2 #[] #[])
  fields := #[]
  methods := #[k2m0]
  instanceTypes := #[]
  staticTypes := #[]
  resolved := Array.replicate 22 none
  statics := none }

def pool3 : Array CpInfo := pool [(1, .methodref 2 3), (0, .class_ 4), (0, .nameAndType 5 6), (0, u "java/lang/Record"), (0, u "<init>"), (0, u "()V"), (0, .class_ 8), (0, u "com/example/lossfall/lossfall/model/Percentage"), (9, .fieldref 7 19), (0, .nameAndType 20 21), (0, u "basisPoints"), (0, u "I"), (28, .long 10000), (7, u "(I)V"), (15, u "WHOLE"), (7, u "shareOf"), (0, u "(J)J")] 33

def k3c0 : Code := { maxStack := 3, maxLocals := 2, code := prog_33_method_1_code, exceptionTable := #[], attributes := #[] }
def k3m0 : Method := { name := "<init>", desc := "(I)V", sig := { parameters := [.int], returnType := none }, accessFlags := 1, code := some k3c0 }
def k3c1 : Code := { maxStack := 6, maxLocals := 3, code := prog_33_method_3_code, exceptionTable := #[], attributes := #[] }
def k3m1 : Method := { name := "shareOf", desc := "(J)J", sig := { parameters := [.long], returnType := some .long }, accessFlags := 1, code := some k3c1 }
/-- com/example/lossfall/lossfall/model/Percentage -/
def k3 : Class := { plain "com/example/lossfall/lossfall/model/Percentage" (some 2) with
  accessFlags := 49
  interfaces := #[]
  cf := some (fileOf pool3 7 #[] #[{ accessFlags := 1, nameIndex := 5, descriptorIndex := 58, attributes := #[] }, { accessFlags := 1, nameIndex := 82, descriptorIndex := 83, attributes := #[] }] 49 2 #[] #[{ accessFlags := 18, nameIndex := 20, descriptorIndex := 21, attributes := #[] }, { accessFlags := 26, nameIndex := 74, descriptorIndex := 21, attributes := #[] }])
  fields := #[{ name := "basisPoints", type := .int, accessFlags := 18, slot := 0, constantValue := 0 }, { name := "WHOLE", type := .int, accessFlags := 26, slot := 0, constantValue := 0 }]
  methods := #[k3m0, k3m1]
  instanceTypes := #[.int]
  staticTypes := #[.int]
  resolved := Array.replicate 117 none
  statics := none }

def pool4 : Array CpInfo := pool [(1, u "java/lang/Cloneable"), (0, .class_ 1), (0, u "java/lang/Object"), (0, .class_ 3)] 3

/-- java/lang/Cloneable -/
def k4 : Class := { plain "java/lang/Cloneable" (some 0) with
  accessFlags := 1537
  interfaces := #[]
  cf := some (fileOf pool4 2 #[] #[] 1537 4 #[] #[])
  fields := #[]
  methods := #[]
  instanceTypes := #[]
  staticTypes := #[]
  resolved := Array.replicate 8 none
  statics := none }

def pool5 : Array CpInfo := pool [(1, u "java/io/Serializable"), (0, .class_ 1), (0, u "java/lang/Object"), (0, .class_ 3)] 3

/-- java/io/Serializable -/
def k5 : Class := { plain "java/io/Serializable" (some 0) with
  accessFlags := 1537
  interfaces := #[]
  cf := some (fileOf pool5 2 #[] #[] 1537 4 #[] #[])
  fields := #[]
  methods := #[]
  instanceTypes := #[]
  staticTypes := #[]
  resolved := Array.replicate 8 none
  statics := none }

/-- the primitive byte -/
def k6 : Class := { plain "byte" none with kind := .primitive 'B', accessFlags := 0x411 }
/-- [B -/
def k7 : Class := { plain "[B" (some 0) with kind := .array 6 .byte, interfaces := #[4, 5], accessFlags := 1041 }

/-- the primitive int -/
def k8 : Class := { plain "int" none with kind := .primitive 'I', accessFlags := 0x411 }
/-- [I -/
def k9 : Class := { plain "[I" (some 0) with kind := .array 8 .int, interfaces := #[4, 5], accessFlags := 1041 }

def heap : Heap := #[]
def classes : Array Class := #[k0, k1, k2, k3, k4, k5, k6, k7, k8, k9]
def interned : List (Array UInt16 × Addr) := []
def slotsUsed : Nat := 0
def theMethod : MethodId := ⟨1, 1⟩
def args0 : Array Value := #[.long 5000, .int 300]
def aboutOver (below : List Frame) : State where
  vm := { classes := classes, interned := interned.toArray }
  heap := heap
  slotsUsed := slotsUsed
  threads := #[{ frames := .invoking theMethod args0 :: below }]
def below0 : List Frame := [.native { method := ⟨0, 0⟩, args := #[] }]
def about1 : State := aboutOver below0
def p0 : Program := .bare "" "" ""
def e0 : Env := launch0.env 0 0 0
theorem w_frames : about1.frames = Frame.invoking theMethod args0 :: below0 := rfl
set_option maxRecDepth 65536 in
theorem w_args : argsFit about1.vm theMethod args0 = true := by decide +kernel
set_option maxRecDepth 65536 in
theorem w_heap : heapFits about1 = true := by decide +kernel
set_option maxRecDepth 65536 in
theorem w_runnable : about1.curStatus? = some .runnable := by decide +kernel
set_option maxRecDepth 65536 in
theorem w_alone : about1.alone = true := by decide +kernel
set_option maxRecDepth 65536 in
theorem w_named : about1.methodNamed? x = some theMethod := by decide +kernel
set_option maxRecDepth 65536 in
theorem w_hears : about1.hears theMethod below0 = true := by decide +kernel
set_option maxRecDepth 65536 in
theorem w_ripe : about1.ripe theMethod args0 below0 = true := by decide +kernel
theorem w_running : about1.status = .running := rfl
set_option maxRecDepth 65536 in
theorem w_room : about1.hasRoom e0.platform room_1 = true :=
  launch0.hasRoom_least _ room_1 (by decide +kernel) (by decide +kernel) (by decide +kernel) (by decide +kernel) (by decide +kernel) (by decide +kernel)
theorem allAtoms_all (ts : List Jvm.Cond) (a : Array Jvm.Value) (st : Jvm.State) : (allAtoms ts).before a st = ts.all (fun c => c.before a st) := by
  induction ts with
  | nil => rfl
  | cons c t ih =>
    show (Jvm.Cond.and c (allAtoms t)).before a st = _
    rw [Jvm.Cond.before_and, ih, List.all_cons]
def words1 : List Jvm.Cond := Jvm.Cond.code x code maxLocals ret :: tables_1
/-- a 'code' word, met by the world's own term for the bytes: nothing is compared byte by byte -/
theorem code_word {y : MethodName} {bytes : ByteArray} {mx : Nat} {rt : Option FieldType} {a : Array Value} {s : State} {m : MethodId} {meth : Method} {c : Code} (h1 : s.methodNamed? y = some m) (h2 : s.vm.method? m = some meth) (h3 : meth.code = some c) (h4 : c.code = bytes)
    (h5 : (c.maxLocals == mx && c.exceptionTable.isEmpty && decide (c.maxStack ≤ mostOperands) && decide (meth.sig.returnType = rt) && !meth.locks && decide (parseMethodDescriptor y.desc = some meth.sig)) = true) : (Jvm.Cond.code y bytes mx rt).before a s = true := by
  simp only [Bool.and_eq_true, beq_iff_eq, Bool.not_eq_true', decide_eq_true_eq] at h5
  obtain ⟨⟨⟨⟨⟨g1, g2⟩, g3⟩, g4⟩, g5⟩, g6⟩ := h5
  simp [Cond.before, Cond.holds, Cond.value, h1, h2, h3, h4, g1, g2, g3, g4, g5, g6]
def isCode : Jvm.Cond → Bool
  | .code _ _ _ _ => true
  | _ => false
theorem all_split {L : List Jvm.Cond} {P : Jvm.Cond → Bool} (h1 : L.all (fun c => isCode c || P c) = true) (h2 : ∀ c ∈ L.filter isCode, P c = true) : L.all P = true := by
  refine List.all_eq_true.mpr fun c hc => ?_
  have h := List.all_eq_true.mp h1 c hc
  rcases Bool.eq_false_or_eq_true (isCode c) with hi | hi
  · exact h2 c (List.mem_filter.mpr ⟨hc, hi⟩)
  · simpa [hi] using h
set_option maxRecDepth 65536 in
theorem w_c0 : (Jvm.Cond.code x code maxLocals ret).before args0 about1 = true := code_word (m := ⟨1, 1⟩) (meth := k1m1) (c := k1c1) (by decide +kernel) rfl rfl rfl (by decide +kernel)
set_option maxRecDepth 65536 in
theorem w_c1 : (Jvm.Cond.code ({ cls := "com/example/lossfall/lossfall/model/Percentage", name := "<init>", desc := "(I)V" } : Jvm.MethodName) prog_33_method_1_code (2 : Nat) (Option.none : Option Jvm.ClassFile.FieldType)).before args0 about1 = true := code_word (m := ⟨3, 0⟩) (meth := k3m0) (c := k3c0) (by decide +kernel) rfl rfl rfl (by decide +kernel)
set_option maxRecDepth 65536 in
theorem w_c2 : (Jvm.Cond.code ({ cls := "java/lang/Record", name := "<init>", desc := "()V" } : Jvm.MethodName) jdk_30_method_1_code (1 : Nat) (Option.none : Option Jvm.ClassFile.FieldType)).before args0 about1 = true := code_word (m := ⟨2, 0⟩) (meth := k2m0) (c := k2c0) (by decide +kernel) rfl rfl rfl (by decide +kernel)
set_option maxRecDepth 65536 in
theorem w_c3 : (Jvm.Cond.code ({ cls := "java/lang/Object", name := "<init>", desc := "()V" } : Jvm.MethodName) object_method_1_code (1 : Nat) (Option.none : Option Jvm.ClassFile.FieldType)).before args0 about1 = true := code_word (m := ⟨0, 0⟩) (meth := k0m0) (c := k0c0) (by decide +kernel) rfl rfl rfl (by decide +kernel)
set_option maxRecDepth 65536 in
theorem w_c4 : (Jvm.Cond.code ({ cls := "com/example/lossfall/lossfall/model/Percentage", name := "shareOf", desc := "(J)J" } : Jvm.MethodName) prog_33_method_3_code (3 : Nat) (Option.some Jvm.ClassFile.FieldType.long)).before args0 about1 = true := code_word (m := ⟨3, 1⟩) (meth := k3m1) (c := k3c1) (by decide +kernel) rfl rfl rfl (by decide +kernel)
def codes1 : List Jvm.Cond := [Jvm.Cond.code x code maxLocals ret, Jvm.Cond.code ({ cls := "com/example/lossfall/lossfall/model/Percentage", name := "<init>", desc := "(I)V" } : Jvm.MethodName) prog_33_method_1_code (2 : Nat) (Option.none : Option Jvm.ClassFile.FieldType), Jvm.Cond.code ({ cls := "java/lang/Record", name := "<init>", desc := "()V" } : Jvm.MethodName) jdk_30_method_1_code (1 : Nat) (Option.none : Option Jvm.ClassFile.FieldType), Jvm.Cond.code ({ cls := "java/lang/Object", name := "<init>", desc := "()V" } : Jvm.MethodName) object_method_1_code (1 : Nat) (Option.none : Option Jvm.ClassFile.FieldType), Jvm.Cond.code ({ cls := "com/example/lossfall/lossfall/model/Percentage", name := "shareOf", desc := "(J)J" } : Jvm.MethodName) prog_33_method_3_code (3 : Nat) (Option.some Jvm.ClassFile.FieldType.long)]
set_option maxRecDepth 65536 in
theorem codes_eq : words1.filter isCode = codes1 := rfl
theorem w_codes : ∀ c ∈ words1.filter isCode, c.before args0 about1 = true := by
  rw [codes_eq]
  intro c hc
  simp only [codes1, List.mem_cons, List.not_mem_nil, or_false] at hc
  rcases hc with rfl | rfl | rfl | rfl | rfl
  · exact w_c0
  · exact w_c1
  · exact w_c2
  · exact w_c3
  · exact w_c4
set_option maxRecDepth 65536 in
theorem w_t1 : (words1.take 24).all (fun c => isCode c || c.before args0 about1) = true := by decide +kernel
set_option maxRecDepth 65536 in
theorem w_t2 : (words1.drop 24).all (fun c => isCode c || c.before args0 about1) = true := by decide +kernel
theorem w_tables : (allAtoms (Jvm.Cond.code x code maxLocals ret :: tables_1)).before args0 about1 = true := by
  rw [allAtoms_all]
  show words1.all (fun c => c.before args0 about1) = true
  refine all_split ?_ w_codes
  rw [← List.take_append_drop 24 words1, List.all_append, w_t1, w_t2]
  rfl
set_option maxRecDepth 65536 in
theorem w_case : (Jvm.Cond.and given_1 narrow_1).before args0 about1 = true := by decide +kernel
theorem w_applies : (headSpec (Jvm.Cond.code x code maxLocals ret :: tables_1) room_1).applies x e0.platform about1 = true :=
  (Spec.applies_iff w_frames).mpr ⟨w_running, w_runnable, w_alone, w_named, w_hears, w_ripe, w_room, w_tables⟩
theorem atStart : AtStart classFile x code maxLocals ret World_1 tables_1 room_1 Calls_1 rest_1 Pre_1 launch0 p0 e0 about1 theMethod args0 below0 :=
  ⟨lists_1, trivial, launch0.admits_env _ _ _, launch0.least_env, fairChoices_fair.cas, fairChoices_fair.clock, w_frames, w_args, w_heap, w_applies, trivial, trivial, w_case⟩
end start1
theorem witness_1 : WitnessClaimed_1 := ⟨start1.p0, start1.e0, start1.about1, start1.theMethod, start1.args0, start1.below0, start1.atStart⟩
end Jvm.Pilot.@@N@@
