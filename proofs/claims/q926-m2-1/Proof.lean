import JvmDerived
import JvmDerived.Pilot.@@N@@Statement
import JvmDerived.Pilot.@@N@@Code
set_option linter.unusedVariables false
set_option linter.unusedSimpArgs false
namespace Jvm.RoadKit
open Sem ClassFile Op Lib Jvm.Stand Jvm.Free Jvm.LawKit
section OwnKit
variable {p : Program} {l : Launch} {e : Env} {R : Room} {s : State} {m : MethodId} {args : Array Value} {below : List Frame} {meth : Method} {c : Code} {T : State} {locs : List Loc} {cells slots : Nat}
def EndsQ (tb : Tables) (e : Env) (below : List Frame) (s : State) (Qv : Option Value → Heap → List Loc → Prop) (rc rs : Nat) (st : State) : Prop :=
  ∃ s₂ o, Steps tb e below st s₂ ∧ s₂.status = .running ∧ Ended s₂ below o ∧ ∃ v L, o = .returned v ∧ Qv v s₂.heap L ∧ FrameEnd s o s₂ L rc rs
theorem EndsQ.go {tb : Tables} {Qv : Option Value → Heap → List Loc → Prop} {rc rs : Nat} {a b : State} (k : ∀ t, Steps tb e below b t → Steps tb e below a t) (h : EndsQ tb e below s Qv rc rs b) : EndsQ tb e below s Qv rc rs a := by
  obtain ⟨s₂, o, h1, h2⟩ := h
  exact ⟨s₂, o, k _ h1, h2⟩
theorem EndsQ.out (X : Stand p l e R s m args below meth c T locs cells slots) (hlk : meth.locks = false) {Qv : Option Value → Heap → List Loc → Prop} {rc rs : Nat} {v : Option Value} {st : State} (hv : meth.sig.returnType = none → v = none)
    (hs : ∀ fs, (∀ (f : JFrame) (acts : List Action), f.method = m → f.locked = none → f.entered = [] → (doReturn e (T.setTop f) acts v).1 = T.setFrames fs) → Steps p.tables e below st (T.setFrames fs))
    (h1 : cells ≤ rc) (h2 : slots ≤ rs) (hq : Qv v T.heap locs) : EndsQ p.tables e below s Qv rc rs st := by
  obtain ⟨fs, hr, hrun, hended, hW, hsame⟩ := X.leave (v := v) hv hlk
  exact ⟨_, _, hs fs hr, hrun, hended, _, _, rfl, hq, ⟨_, rfl⟩, hW, hsame.mono h1 h2⟩
theorem EndsQ.retI (X : Stand p l e R s m args below meth c T locs cells slots) (hx : p.tables.exec = Jvm.exec) (hlk : meth.locks = false) {Qv : Option Value → Heap → List Loc → Prop} {rc rs pc : Nat} {Ls : Array Slot} {z : Int32} {rest : List Value} (hret : meth.sig.returnType = some .int) (hd : decode c.code pc = .ok (.ireturn, 1))
    (h1 : cells ≤ rc) (h2 : slots ≤ rs) (hq : Qv (some (.int z)) T.heap locs) : EndsQ p.tables e below s Qv rc rs (T.setTop (mkF m pc Ls (.int z :: rest))) := by
  refine EndsQ.out X hlk (v := some (.int z)) (fun h => by rw [hret] at h; cases h) (fun fs hr => ?_) h1 h2 hq
  exact retOut X hx hret rfl (Or.inl ⟨rfl, Or.inl rfl, z, rfl⟩) hd hr
theorem EndsQ.retJ (X : Stand p l e R s m args below meth c T locs cells slots) (hx : p.tables.exec = Jvm.exec) (hlk : meth.locks = false) {Qv : Option Value → Heap → List Loc → Prop} {rc rs pc : Nat} {Ls : Array Slot} {z : Int64} {rest : List Value} (hret : meth.sig.returnType = some .long) (hd : decode c.code pc = .ok (.lreturn, 1))
    (h1 : cells ≤ rc) (h2 : slots ≤ rs) (hq : Qv (some (.long z)) T.heap locs) : EndsQ p.tables e below s Qv rc rs (T.setTop (mkF m pc Ls (.long z :: rest))) := by
  refine EndsQ.out X hlk (v := some (.long z)) (fun h => by rw [hret] at h; cases h) (fun fs hr => ?_) h1 h2 hq
  exact retOut X hx hret rfl (Or.inr (Or.inl ⟨rfl, rfl, z, rfl⟩)) hd hr
theorem EndsQ.retA (X : Stand p l e R s m args below meth c T locs cells slots) (hx : p.tables.exec = Jvm.exec) (hlk : meth.locks = false) {Qv : Option Value → Heap → List Loc → Prop} {rc rs pc : Nat} {Ls : Array Slot} {w : Value} {t : FieldType} {rest : List Value} (hret : meth.sig.returnType = some t) (ht : t.isReference = true) (hw : w.isRef = true) (hn : narrow t w = w) (hd : decode c.code pc = .ok (.areturn, 1))
    (h1 : cells ≤ rc) (h2 : slots ≤ rs) (hq : Qv (some w) T.heap locs) : EndsQ p.tables e below s Qv rc rs (T.setTop (mkF m pc Ls (w :: rest))) := by
  refine EndsQ.out X hlk (v := some w) (fun h => by rw [hret] at h; cases h) (fun fs hr => ?_) h1 h2 hq
  exact retOut X hx hret hn (Or.inr (Or.inr (Or.inr (Or.inr ⟨rfl, ht, hw⟩)))) hd hr
theorem EndsQ.retN (X : Stand p l e R s m args below meth c T locs cells slots) (hx : p.tables.exec = Jvm.exec) (hlk : meth.locks = false) {Qv : Option Value → Heap → List Loc → Prop} {rc rs pc : Nat} {Ls : Array Slot} {z : Int32} {t : FieldType} {rest : List Value} (hret : meth.sig.returnType = some t) (ht : t = .boolean ∨ t = .byte ∨ t = .char ∨ t = .short) (hd : decode c.code pc = .ok (.ireturn, 1))
    (h1 : cells ≤ rc) (h2 : slots ≤ rs) (hq : Qv (some (.int (nar t z))) T.heap locs) : EndsQ p.tables e below s Qv rc rs (T.setTop (mkF m pc Ls (.int z :: rest))) := by
  refine EndsQ.out X hlk (v := some (.int (nar t z))) (fun h => by rw [hret] at h; cases h) (fun fs hr => ?_) h1 h2 hq
  exact Jvm.RoadKit.retN X hx hret ht hd hr
theorem EndsQ.retV (X : Stand p l e R s m args below meth c T locs cells slots) (hx : p.tables.exec = Jvm.exec) (hlk : meth.locks = false) {Qv : Option Value → Heap → List Loc → Prop} {rc rs pc : Nat} {Ls : Array Slot} (hret : meth.sig.returnType = none) (hd : decode c.code pc = .ok (.return_, 1))
    (h1 : cells ≤ rc) (h2 : slots ≤ rs) (hq : Qv none T.heap locs) : EndsQ p.tables e below s Qv rc rs (T.setTop (mkF m pc Ls [])) := by
  refine EndsQ.out X hlk (v := none) (fun _ => rfl) (fun fs hr => ?_) h1 h2 hq
  exact X.returnOut hx hret hd hr
end OwnKit
end Jvm.RoadKit
namespace Jvm.Pilot.@@N@@
open Jvm Jvm.ClassFile Sem Op Lib Jvm.Free Jvm.Stand Jvm.LawKit Jvm.RoadKit Bundle Jvm.Pilot.@@N@@.Jvm.D

def own_max (p q : Int32) : Int32 := if p < q then q else p
def own_due (s y : Int64) (c : Int32) (p : Int64) : Int64 := ((s + ((y / (c.toInt64)) * p)) + (((y - (y / (c.toInt64)) * (c.toInt64)) * p) / (c.toInt64)))
theorem own_c (x : Int32) : 1 ≤ (own_max (1 : Int32) (x &&& (1048575 : Int32))).toInt ∧ (own_max (1 : Int32) (x &&& (1048575 : Int32))).toInt ≤ 1048575 := by
  have h := c_mask x (1048575 : Int32) 20 (by decide) rfl
  have h1 : (1 : Int32).toInt = 1 := rfl
  unfold own_max
  by_cases q : (1 : Int32) < (x &&& (1048575 : Int32))
  · rw [if_pos q]; rw [Int32.lt_iff_toInt_lt] at q; omega
  · rw [if_neg q]; omega
theorem own_nz (c : Int32) (h : 1 ≤ c.toInt) : c ≠ 0 := fun q => by rw [q] at h; exact absurd h (by decide)
theorem own_nzL (c : Int32) (h : 1 ≤ c.toInt) : c.toInt64 ≠ 0 := fun q => by
  have h1 := c_i2l c
  rw [q] at h1
  have h2 : (0 : Int64).toInt = 0 := rfl
  omega
theorem own_k (y c : Int32) (h : 1 ≤ c.toInt) : 0 ≤ ((y &&& (2147483647 : Int32)) % c).toInt64.toInt ∧ ((y &&& (2147483647 : Int32)) % c).toInt64.toInt < c.toInt := by
  have h1 := c_mask y (2147483647 : Int32) 31 (by decide) rfl
  have h2 := (c_iremV (y &&& (2147483647 : Int32)) c).1 (by omega) (by omega)
  rw [c_i2l]
  exact ⟨h2.1, h2.2.1⟩
theorem own_q (z : Int64) : 0 ≤ (z &&& (1048575 : Int64)).toInt ∧ (z &&& (1048575 : Int64)).toInt ≤ 1048575 := by
  have h := c_maskL z (1048575 : Int64) 20 (by decide) rfl
  omega
theorem own_p (z : Int64) : 0 ≤ (z &&& (4398046511103 : Int64)).toInt ∧ (z &&& (4398046511103 : Int64)).toInt ≤ 4398046511103 := by
  have h := c_maskL z (4398046511103 : Int64) 42 (by decide) rfl
  omega
theorem own_mulb {a b A B : Int} (h1 : 0 ≤ a) (h2 : a ≤ A) (h3 : 0 ≤ b) (h4 : b ≤ B) : 0 ≤ a * b ∧ a * b ≤ A * B :=
  ⟨Int.mul_nonneg h1 h3, Int.mul_le_mul h2 h4 h3 (Int.le_trans h1 h2)⟩
theorem own_mul64 (x y : Int64) (h1 : 0 ≤ x.toInt * y.toInt) (h2 : x.toInt * y.toInt < 9223372036854775808) : (x * y).toInt = x.toInt * y.toInt := by
  have a := c_lmul x y
  have b := rng64 (x * y)
  omega
theorem own_add64 (x y : Int64) (h1 : 0 ≤ x.toInt + y.toInt) (h2 : x.toInt + y.toInt < 9223372036854775808) : (x + y).toInt = x.toInt + y.toInt := by
  have a := c_ladd x y
  have b := rng64 (x + y)
  omega
theorem own_o (s k q p : Int64) (c : Int32) (hc : 1 ≤ c.toInt ∧ c.toInt ≤ 1048575) (hk : 0 ≤ k.toInt ∧ k.toInt < c.toInt) (hq : 0 ≤ q.toInt ∧ q.toInt ≤ 1048575) (hp : 0 ≤ p.toInt ∧ p.toInt ≤ 4398046511103) :
    (((own_due s ((q * (c.toInt64)) + k) c p) - s) - (q * p)).toInt = (k.toInt * p.toInt) / c.toInt ∧ (k * p).toInt = k.toInt * p.toInt := by
  have hC : c.toInt64.toInt = c.toInt := c_i2l c
  have m1 : c.toInt64 ≠ -1 := fun z => by
    rw [z] at hC
    have : (-1 : Int64).toInt = -1 := rfl
    omega
  have A := own_mulb hq.1 hq.2 (Int.le_trans (by decide) hc.1) hc.2
  have B := own_mulb hq.1 hq.2 hp.1 hp.2
  have K := own_mulb hk.1 (show k.toInt ≤ 1048575 by omega) hp.1 hp.2
  have eA : (q * c.toInt64).toInt = q.toInt * c.toInt := by
    have := own_mul64 q c.toInt64 (by rw [hC]; omega) (by rw [hC]; omega)
    rw [this, hC]
  have eS : ((q * c.toInt64) + k).toInt = q.toInt * c.toInt + k.toInt := by
    have := own_add64 (q * c.toInt64) k (by rw [eA]; omega) (by rw [eA]; omega)
    rw [this, eA]
  have eD : (((q * c.toInt64) + k) / c.toInt64).toInt = q.toInt := by
    rw [(c_ldiv ((q * c.toInt64) + k) c.toInt64 c.toInt hC m1).1 (by rw [eS]; omega), eS, Int.add_comm, Int.add_mul_ediv_right _ _ (by omega), Int.ediv_eq_zero_of_lt hk.1 hk.2]
    omega
  have eR : (((q * c.toInt64) + k) - (((q * c.toInt64) + k) / c.toInt64) * c.toInt64).toInt = k.toInt := by
    rw [(c_lrem ((q * c.toInt64) + k) c.toInt64 c.toInt hC).1 (by rw [eS]; omega), eS, Int.add_comm, Int.add_mul_emod_self_right, Int.emod_eq_of_lt hk.1 hk.2]
  have eKP : (k * p).toInt = k.toInt * p.toInt := own_mul64 k p (by omega) (by omega)
  have eQP : (q * p).toInt = q.toInt * p.toInt := own_mul64 q p (by omega) (by omega)
  have e1 : ((((q * c.toInt64) + k) / c.toInt64) * p) = q * p := by rw [Int64.toInt_inj.mp eD]
  have e2 : ((((q * c.toInt64) + k) - (((q * c.toInt64) + k) / c.toInt64) * c.toInt64) * p) = k * p := by rw [Int64.toInt_inj.mp eR]
  have e3 : ((k * p) / c.toInt64).toInt = (k.toInt * p.toInt) / c.toInt := by rw [(c_ldiv (k * p) c.toInt64 c.toInt hC m1).1 (by rw [eKP]; omega), eKP]
  refine ⟨?_, eKP⟩
  unfold own_due
  rw [e1, e2]
  generalize hz : (k * p) / c.toInt64 = z at *
  generalize hw : q * p = w at *
  have f1 := c_ladd (s + w) z
  have f2 := c_ladd s w
  have f3 := c_lsub ((s + w) + z) s
  have f4 := c_lsub (((s + w) + z) - s) w
  have f5 := rng64 ((((s + w) + z) - s) - w)
  have f6 := rng64 z
  rw [← e3]
  omega
theorem own_fin (o k p : Int64) (c : Int32) (hc : 1 ≤ c.toInt ∧ c.toInt ≤ 1048575) (hk : 0 ≤ k.toInt ∧ k.toInt < c.toInt) (hp : 0 ≤ p.toInt ∧ p.toInt ≤ 4398046511103) (ho : o.toInt = (k.toInt * p.toInt) / c.toInt ∧ (k * p).toInt = k.toInt * p.toInt) :
    ¬ o < (0 : Int64) ∧ ¬ p < o ∧ ¬ (k * p) < (o * (c.toInt64)) ∧ ((k * p) - (o * (c.toInt64))) < (c.toInt64) := by
  have hC : c.toInt64.toInt = c.toInt := c_i2l c
  obtain ⟨h1, h2⟩ := ho
  have K := own_mulb hk.1 (show k.toInt ≤ 1048575 by omega) hp.1 hp.2
  have g1 : 0 ≤ (k.toInt * p.toInt) / c.toInt := Int.ediv_nonneg K.1 (by omega)
  have g2 : (k.toInt * p.toInt) / c.toInt ≤ p.toInt := by
    have a1 : k.toInt * p.toInt ≤ p.toInt * c.toInt := by rw [Int.mul_comm p.toInt]; exact Int.mul_le_mul_of_nonneg_right (by omega) hp.1
    have a2 := Int.ediv_le_ediv (c := c.toInt) (by omega) a1
    rw [Int.mul_ediv_cancel _ (by omega)] at a2
    exact a2
  have g3 : o.toInt * c.toInt + (k.toInt * p.toInt) % c.toInt = k.toInt * p.toInt := by rw [h1]; exact Int.ediv_mul_add_emod _ _
  have g4 := Int.emod_nonneg (k.toInt * p.toInt) (show c.toInt ≠ 0 by omega)
  have g5 := Int.emod_lt_of_pos (k.toInt * p.toInt) (show 0 < c.toInt by omega)
  have g6 : 0 ≤ o.toInt * c.toInt := Int.mul_nonneg (by rw [h1]; exact g1) (by omega)
  have eO : (o * c.toInt64).toInt = o.toInt * c.toInt := by
    have := own_mul64 o c.toInt64 (by rw [hC]; exact g6) (by rw [hC]; omega)
    rw [this, hC]
  have eS := c_lsub (k * p) (o * c.toInt64)
  have rS := rng64 ((k * p) - (o * c.toInt64))
  rw [h2, eO] at eS
  refine ⟨?_, ?_, ?_, ?_⟩
  · rw [Int64.lt_iff_toInt_lt, h1]; exact Int.not_lt.mpr g1
  · rw [Int64.lt_iff_toInt_lt, h1]; exact Int.not_lt.mpr g2
  · rw [Int64.lt_iff_toInt_lt, h2, eO]; omega
  · rw [Int64.lt_iff_toInt_lt, hC]; omega
theorem d1_0 : decode jdk_29_method_65_code 0 = .ok (.iload_n 0, 1) := by decide +kernel
theorem d1_1 : decode jdk_29_method_65_code 1 = .ok (.iload_n 1, 1) := by decide +kernel
theorem d1_2 : decode jdk_29_method_65_code 2 = .ok (.if_icmp .lt 7, 3) := by decide +kernel
theorem d1_5 : decode jdk_29_method_65_code 5 = .ok (.iload_n 0, 1) := by decide +kernel
theorem d1_6 : decode jdk_29_method_65_code 6 = .ok (.goto 4, 3) := by decide +kernel
theorem d1_9 : decode jdk_29_method_65_code 9 = .ok (.iload_n 1, 1) := by decide +kernel
theorem d1_10 : decode jdk_29_method_65_code 10 = .ok (.ireturn, 1) := by decide +kernel
theorem d2_0 : decode prog_17_method_9_code 0 = .ok (.lload_n 0, 1) := by decide +kernel
theorem d2_1 : decode prog_17_method_9_code 1 = .ok (.lload_n 2, 1) := by decide +kernel
theorem d2_2 : decode prog_17_method_9_code 2 = .ok (.iload 4, 2) := by decide +kernel
theorem d2_4 : decode prog_17_method_9_code 4 = .ok (.i2l, 1) := by decide +kernel
theorem d2_5 : decode prog_17_method_9_code 5 = .ok (.ldiv, 1) := by decide +kernel
theorem d2_6 : decode prog_17_method_9_code 6 = .ok (.lload 5, 2) := by decide +kernel
theorem d2_8 : decode prog_17_method_9_code 8 = .ok (.lmul, 1) := by decide +kernel
theorem d2_9 : decode prog_17_method_9_code 9 = .ok (.ladd, 1) := by decide +kernel
theorem d2_10 : decode prog_17_method_9_code 10 = .ok (.lload_n 2, 1) := by decide +kernel
theorem d2_11 : decode prog_17_method_9_code 11 = .ok (.iload 4, 2) := by decide +kernel
theorem d2_13 : decode prog_17_method_9_code 13 = .ok (.i2l, 1) := by decide +kernel
theorem d2_14 : decode prog_17_method_9_code 14 = .ok (.lrem, 1) := by decide +kernel
theorem d2_15 : decode prog_17_method_9_code 15 = .ok (.lload 5, 2) := by decide +kernel
theorem d2_17 : decode prog_17_method_9_code 17 = .ok (.lmul, 1) := by decide +kernel
theorem d2_18 : decode prog_17_method_9_code 18 = .ok (.iload 4, 2) := by decide +kernel
theorem d2_20 : decode prog_17_method_9_code 20 = .ok (.i2l, 1) := by decide +kernel
theorem d2_21 : decode prog_17_method_9_code 21 = .ok (.ldiv, 1) := by decide +kernel
theorem d2_22 : decode prog_17_method_9_code 22 = .ok (.ladd, 1) := by decide +kernel
theorem d2_23 : decode prog_17_method_9_code 23 = .ok (.lreturn, 1) := by decide +kernel
theorem pn_2 : plainName "moorholt/cli/Load" = true := by first | (simp [plainName, overriddenIn]; done) | decide +kernel
theorem pn_0 : plainName "moorholt/cli/LoadDuePinLaw" = true := by first | (simp [plainName, overriddenIn]; done) | decide +kernel
theorem pd_0 : parseMethodDescriptor "(II)I" = some ⟨[.int, .int], some .int⟩ := by decide +kernel
theorem pd_1 : parseMethodDescriptor "(JJIJ)J" = some ⟨[.long, .long, .int, .long], some .long⟩ := by decide +kernel
theorem ef_1 (m : MethodId) (x0 : Int32) (x1 : Int32) : entryFrame m #[(.int x0), (.int x1)] 2 = mkF m 0 #[.val (.int x0), .val (.int x1)] [] := by first | (simp [entryFrame, mkF, argsToLocals, Value.category]; done) | rfl
def Q1 (Z : State) (p1 : Int32) (p2 : Int32) (h0 : Heap) (n0 : Nat) (v : Option Value) (h : Heap) (L : List Loc) : Prop := v = some (.int (own_max p1 p2)) ∧ Fr n0 L ∧ h = h0
set_option maxRecDepth 65536 in
set_option maxHeartbeats 40000000 in
theorem rm1 (l : Launch) (Z : State) (a0 : Array Value) (hw : ∀ d ∈ tables_1, d.before a0 Z = true) (ws : List Jvm.Cond) (p1 : Int32) (p2 : Int32) (h0 : Heap) (n0 : Nat) (Z0 : n0 ≤ h0.size) :
    MetFree l (⟨"java/lang/Math", "max", "(II)I"⟩ : MethodName) (head1 (Jvm.Cond.code (⟨"java/lang/Math", "max", "(II)I"⟩ : MethodName) jdk_29_method_65_code 2 (some .int) :: ws) ({ frames := 0, cells := 0, slots := 0, locals := 0 } : Room)) (fun a U => a = #[(.int p1), (.int p2)] ∧ Z.Warmed39 U.vm ∧ U.heap = h0) (fun _ _ _ _ _ => True) (fun _ U o U' => ∃ v L, o = .returned v ∧ Q1 Z p1 p2 h0 n0 v U'.heap L ∧ FrameEnd U o U' L ({ frames := 0, cells := 0, slots := 0, locals := 0 } : Room).cells ({ frames := 0, cells := 0, slots := 0, locals := 0 } : Room).slots) := by
  refine MetFree.of_bodySF (Jvm.Free.JP.mathPlain rfl (by decide +kernel)) hisR ?_
  intro p e s m args below meth c s₁ Bd hml0 hP hK
  obtain ⟨rfl, hZ, hh⟩ := hP
  have hx := Bd.exec
  have hby := Bd.bytes
  have hml : c.maxLocals = 2 := hml0
  have hown : s.vm.findClass "java/lang/Math" = some m.cls := findClass_of_methodNamed Bd.named
  have hnm := (name_of_methodNamed Bd.named Bd.method).1
  have X0 : Stand p l e ({ frames := 0, cells := 0, slots := 0, locals := 0 } : Room) s m #[(.int p1), (.int p2)] below meth c s₁ [] 0 0 := Stand.of_body Bd
  have e0 : s₁.heap = h0 := by rw [← hh, Bd.state]; rfl
  have N0 := Fr.nil n0
  show EndsQ p.tables e below s (fun v h L => Q1 Z p1 p2 h0 n0 v h L) ({ frames := 0, cells := 0, slots := 0, locals := 0 } : Room).cells ({ frames := 0, cells := 0, slots := 0, locals := 0 } : Room).slots _
  refine EndsQ.go (b := s₁.setTop (mkF m 0 #[.val (.int p1), .val (.int p2)] [])) (fun t k => castTop (ef_1 m p1 p2) k) ?_
  refine EndsQ.go (b := s₁.setTop (mkF m 2 #[.val (.int p1), .val (.int p2)] [(.int p2), (.int p1)])) (fun t k => ?_) ?_
  · show Steps p.tables e below (s₁.setTop (mkF m 0 #[.val (.int p1), .val (.int p2)] [])) _
    refine XS.iloadN X0.here hx rfl (hb hby d1_0) rfl ?_
    show Steps p.tables e below (s₁.setTop (mkF m 1 #[.val (.int p1), .val (.int p2)] [(.int p1)])) _
    refine XS.iloadN X0.here hx rfl (hb hby d1_1) rfl ?_
    show Steps p.tables e below (s₁.setTop (mkF m 2 #[.val (.int p1), .val (.int p2)] [(.int p2), (.int p1)])) _
    exact k
  by_cases hc2_101 : p1 < p2
  · refine EndsQ.go (b := s₁.setTop (mkF m 9 #[.val (.int p1), .val (.int p2)] [])) (fun t k => ?_) ?_
    · show Steps p.tables e below (s₁.setTop (mkF m 2 #[.val (.int p1), .val (.int p2)] [(.int p2), (.int p1)])) _
      refine XS.icmpYes X0.here hx rfl (pc0 := 2) (pc' := 9) rfl (hb hby d1_2) rfl (tlt hc2_101).1 (by decide) (by decide) ?_
      show Steps p.tables e below (s₁.setTop (mkF m 9 #[.val (.int p1), .val (.int p2)] [])) _
      exact k
    refine EndsQ.go (b := s₁.setTop (mkF m 10 #[.val (.int p1), .val (.int p2)] [(.int p2)])) (fun t k => ?_) ?_
    · show Steps p.tables e below (s₁.setTop (mkF m 9 #[.val (.int p1), .val (.int p2)] [])) _
      refine XS.iloadN X0.here hx rfl (hb hby d1_9) rfl ?_
      show Steps p.tables e below (s₁.setTop (mkF m 10 #[.val (.int p1), .val (.int p2)] [(.int p2)])) _
      exact k
    refine EndsQ.retI X0 hx Bd.notSynchronized Bd.returns (hb hby d1_10) (by decide) (by decide) ?_
    show Q1 Z p1 p2 h0 n0 (some (.int p2)) s₁.heap _
    rw [e0]
    exact ⟨by unfold own_max; rw [if_pos hc2_101], N0, rfl⟩
  · refine EndsQ.go (b := s₁.setTop (mkF m 5 #[.val (.int p1), .val (.int p2)] [])) (fun t k => ?_) ?_
    · show Steps p.tables e below (s₁.setTop (mkF m 2 #[.val (.int p1), .val (.int p2)] [(.int p2), (.int p1)])) _
      refine XS.icmpNo X0.here hx rfl (hb hby d1_2) rfl (flt hc2_101).1 ?_
      show Steps p.tables e below (s₁.setTop (mkF m 5 #[.val (.int p1), .val (.int p2)] [])) _
      exact k
    refine EndsQ.go (b := s₁.setTop (mkF m 10 #[.val (.int p1), .val (.int p2)] [(.int p1)])) (fun t k => ?_) ?_
    · show Steps p.tables e below (s₁.setTop (mkF m 5 #[.val (.int p1), .val (.int p2)] [])) _
      refine XS.iloadN X0.here hx rfl (hb hby d1_5) rfl ?_
      show Steps p.tables e below (s₁.setTop (mkF m 6 #[.val (.int p1), .val (.int p2)] [(.int p1)])) _
      refine XS.goto X0.here hx rfl (pc0 := 6) (pc' := 10) rfl (hb hby d1_6) (by decide) (by decide) ?_
      show Steps p.tables e below (s₁.setTop (mkF m 10 #[.val (.int p1), .val (.int p2)] [(.int p1)])) _
      exact k
    refine EndsQ.retI X0 hx Bd.notSynchronized Bd.returns (hb hby d1_10) (by decide) (by decide) ?_
    show Q1 Z p1 p2 h0 n0 (some (.int p1)) s₁.heap _
    rw [e0]
    exact ⟨by unfold own_max; rw [if_neg hc2_101], N0, rfl⟩
theorem ef_2 (m : MethodId) (x0 : Int64) (x1 : Int64) (x2 : Int32) (x3 : Int64) : entryFrame m #[(.long x0), (.long x1), (.int x2), (.long x3)] 7 = mkF m 0 #[.val (.long x0), .second, .val (.long x1), .second, .val (.int x2), .val (.long x3), .second] [] := by first | (simp [entryFrame, mkF, argsToLocals, Value.category]; done) | rfl
def Q2 (Z : State) (q1 : Int64) (q2 : Int64) (p3 : Int32) (q4 : Int64) (h0 : Heap) (n0 : Nat) (v : Option Value) (h : Heap) (L : List Loc) : Prop := v = some (.long (own_due q1 q2 p3 q4)) ∧ Fr n0 L ∧ h = h0
set_option maxRecDepth 65536 in
set_option maxHeartbeats 40000000 in
theorem rm2 (l : Launch) (Z : State) (a0 : Array Value) (hw : ∀ d ∈ tables_1, d.before a0 Z = true) (ws : List Jvm.Cond) (q1 : Int64) (q2 : Int64) (p3 : Int32) (q4 : Int64) (h0 : Heap) (n0 : Nat) (Z0 : n0 ≤ h0.size) (hnz : p3.toInt64 ≠ 0) :
    MetFree l (⟨"moorholt/cli/Load", "due", "(JJIJ)J"⟩ : MethodName) (head1 (Jvm.Cond.code (⟨"moorholt/cli/Load", "due", "(JJIJ)J"⟩ : MethodName) prog_17_method_9_code 7 (some .long) :: ws) ({ frames := 0, cells := 0, slots := 0, locals := 0 } : Room)) (fun a U => a = #[(.long q1), (.long q2), (.int p3), (.long q4)] ∧ Z.Warmed39 U.vm ∧ U.heap = h0) (fun _ _ _ _ _ => True) (fun _ U o U' => ∃ v L, o = .returned v ∧ Q2 Z q1 q2 p3 q4 h0 n0 v U'.heap L ∧ FrameEnd U o U' L ({ frames := 0, cells := 0, slots := 0, locals := 0 } : Room).cells ({ frames := 0, cells := 0, slots := 0, locals := 0 } : Room).slots) := by
  refine MetFree.of_bodySF (plainFor_of_name pn_2) hisR ?_
  intro p e s m args below meth c s₁ Bd hml0 hP hK
  obtain ⟨rfl, hZ, hh⟩ := hP
  have hx := Bd.exec
  have hby := Bd.bytes
  have hml : c.maxLocals = 7 := hml0
  have hown : s.vm.findClass "moorholt/cli/Load" = some m.cls := findClass_of_methodNamed Bd.named
  have hnm := (name_of_methodNamed Bd.named Bd.method).1
  have X0 : Stand p l e ({ frames := 0, cells := 0, slots := 0, locals := 0 } : Room) s m #[(.long q1), (.long q2), (.int p3), (.long q4)] below meth c s₁ [] 0 0 := Stand.of_body Bd
  have e0 : s₁.heap = h0 := by rw [← hh, Bd.state]; rfl
  have N0 := Fr.nil n0
  show EndsQ p.tables e below s (fun v h L => Q2 Z q1 q2 p3 q4 h0 n0 v h L) ({ frames := 0, cells := 0, slots := 0, locals := 0 } : Room).cells ({ frames := 0, cells := 0, slots := 0, locals := 0 } : Room).slots _
  refine EndsQ.go (b := s₁.setTop (mkF m 0 #[.val (.long q1), .second, .val (.long q2), .second, .val (.int p3), .val (.long q4), .second] [])) (fun t k => castTop (ef_2 m q1 q2 p3 q4) k) ?_
  refine EndsQ.go (b := s₁.setTop (mkF m 23 #[.val (.long q1), .second, .val (.long q2), .second, .val (.int p3), .val (.long q4), .second] [(.long ((q1 + ((q2 / (p3.toInt64)) * q4)) + (((q2 - (q2 / (p3.toInt64)) * (p3.toInt64)) * q4) / (p3.toInt64))))])) (fun t k => ?_) ?_
  · show Steps p.tables e below (s₁.setTop (mkF m 0 #[.val (.long q1), .second, .val (.long q2), .second, .val (.int p3), .val (.long q4), .second] [])) _
    refine XS.lloadN X0.here hx rfl (hb hby d2_0) rfl ?_
    show Steps p.tables e below (s₁.setTop (mkF m 1 #[.val (.long q1), .second, .val (.long q2), .second, .val (.int p3), .val (.long q4), .second] [(.long q1)])) _
    refine XS.lloadN X0.here hx rfl (hb hby d2_1) rfl ?_
    show Steps p.tables e below (s₁.setTop (mkF m 2 #[.val (.long q1), .second, .val (.long q2), .second, .val (.int p3), .val (.long q4), .second] [(.long q2), (.long q1)])) _
    refine XS.iload X0.here hx rfl (hb hby d2_2) rfl ?_
    show Steps p.tables e below (s₁.setTop (mkF m 4 #[.val (.long q1), .second, .val (.long q2), .second, .val (.int p3), .val (.long q4), .second] [(.int p3), (.long q2), (.long q1)])) _
    refine XS.i2l X0.here hx rfl (hb hby d2_4) rfl ?_
    show Steps p.tables e below (s₁.setTop (mkF m 5 #[.val (.long q1), .second, .val (.long q2), .second, .val (.int p3), .val (.long q4), .second] [(.long (p3.toInt64)), (.long q2), (.long q1)])) _
    refine XS.ldiv X0.here hx rfl (hb hby d2_5) rfl hnz ?_
    show Steps p.tables e below (s₁.setTop (mkF m 6 #[.val (.long q1), .second, .val (.long q2), .second, .val (.int p3), .val (.long q4), .second] [(.long (q2 / (p3.toInt64))), (.long q1)])) _
    refine XS.lload X0.here hx rfl (hb hby d2_6) rfl ?_
    show Steps p.tables e below (s₁.setTop (mkF m 8 #[.val (.long q1), .second, .val (.long q2), .second, .val (.int p3), .val (.long q4), .second] [(.long q4), (.long (q2 / (p3.toInt64))), (.long q1)])) _
    refine XS.lmul X0.here hx rfl (hb hby d2_8) rfl ?_
    show Steps p.tables e below (s₁.setTop (mkF m 9 #[.val (.long q1), .second, .val (.long q2), .second, .val (.int p3), .val (.long q4), .second] [(.long ((q2 / (p3.toInt64)) * q4)), (.long q1)])) _
    refine XS.ladd X0.here hx rfl (hb hby d2_9) rfl ?_
    show Steps p.tables e below (s₁.setTop (mkF m 10 #[.val (.long q1), .second, .val (.long q2), .second, .val (.int p3), .val (.long q4), .second] [(.long (q1 + ((q2 / (p3.toInt64)) * q4)))])) _
    refine XS.lloadN X0.here hx rfl (hb hby d2_10) rfl ?_
    show Steps p.tables e below (s₁.setTop (mkF m 11 #[.val (.long q1), .second, .val (.long q2), .second, .val (.int p3), .val (.long q4), .second] [(.long q2), (.long (q1 + ((q2 / (p3.toInt64)) * q4)))])) _
    refine XS.iload X0.here hx rfl (hb hby d2_11) rfl ?_
    show Steps p.tables e below (s₁.setTop (mkF m 13 #[.val (.long q1), .second, .val (.long q2), .second, .val (.int p3), .val (.long q4), .second] [(.int p3), (.long q2), (.long (q1 + ((q2 / (p3.toInt64)) * q4)))])) _
    refine XS.i2l X0.here hx rfl (hb hby d2_13) rfl ?_
    show Steps p.tables e below (s₁.setTop (mkF m 14 #[.val (.long q1), .second, .val (.long q2), .second, .val (.int p3), .val (.long q4), .second] [(.long (p3.toInt64)), (.long q2), (.long (q1 + ((q2 / (p3.toInt64)) * q4)))])) _
    refine XS.lrem X0.here hx rfl (hb hby d2_14) rfl hnz ?_
    show Steps p.tables e below (s₁.setTop (mkF m 15 #[.val (.long q1), .second, .val (.long q2), .second, .val (.int p3), .val (.long q4), .second] [(.long (q2 - (q2 / (p3.toInt64)) * (p3.toInt64))), (.long (q1 + ((q2 / (p3.toInt64)) * q4)))])) _
    refine XS.lload X0.here hx rfl (hb hby d2_15) rfl ?_
    show Steps p.tables e below (s₁.setTop (mkF m 17 #[.val (.long q1), .second, .val (.long q2), .second, .val (.int p3), .val (.long q4), .second] [(.long q4), (.long (q2 - (q2 / (p3.toInt64)) * (p3.toInt64))), (.long (q1 + ((q2 / (p3.toInt64)) * q4)))])) _
    refine XS.lmul X0.here hx rfl (hb hby d2_17) rfl ?_
    show Steps p.tables e below (s₁.setTop (mkF m 18 #[.val (.long q1), .second, .val (.long q2), .second, .val (.int p3), .val (.long q4), .second] [(.long ((q2 - (q2 / (p3.toInt64)) * (p3.toInt64)) * q4)), (.long (q1 + ((q2 / (p3.toInt64)) * q4)))])) _
    refine XS.iload X0.here hx rfl (hb hby d2_18) rfl ?_
    show Steps p.tables e below (s₁.setTop (mkF m 20 #[.val (.long q1), .second, .val (.long q2), .second, .val (.int p3), .val (.long q4), .second] [(.int p3), (.long ((q2 - (q2 / (p3.toInt64)) * (p3.toInt64)) * q4)), (.long (q1 + ((q2 / (p3.toInt64)) * q4)))])) _
    refine XS.i2l X0.here hx rfl (hb hby d2_20) rfl ?_
    show Steps p.tables e below (s₁.setTop (mkF m 21 #[.val (.long q1), .second, .val (.long q2), .second, .val (.int p3), .val (.long q4), .second] [(.long (p3.toInt64)), (.long ((q2 - (q2 / (p3.toInt64)) * (p3.toInt64)) * q4)), (.long (q1 + ((q2 / (p3.toInt64)) * q4)))])) _
    refine XS.ldiv X0.here hx rfl (hb hby d2_21) rfl hnz ?_
    show Steps p.tables e below (s₁.setTop (mkF m 22 #[.val (.long q1), .second, .val (.long q2), .second, .val (.int p3), .val (.long q4), .second] [(.long (((q2 - (q2 / (p3.toInt64)) * (p3.toInt64)) * q4) / (p3.toInt64))), (.long (q1 + ((q2 / (p3.toInt64)) * q4)))])) _
    refine XS.ladd X0.here hx rfl (hb hby d2_22) rfl ?_
    show Steps p.tables e below (s₁.setTop (mkF m 23 #[.val (.long q1), .second, .val (.long q2), .second, .val (.int p3), .val (.long q4), .second] [(.long ((q1 + ((q2 / (p3.toInt64)) * q4)) + (((q2 - (q2 / (p3.toInt64)) * (p3.toInt64)) * q4) / (p3.toInt64))))])) _
    exact k
  refine EndsQ.retJ X0 hx Bd.notSynchronized Bd.returns (hb hby d2_23) (by decide) (by decide) ?_
  show Q2 Z q1 q2 p3 q4 h0 n0 (some (.long ((q1 + ((q2 / (p3.toInt64)) * q4)) + (((q2 - (q2 / (p3.toInt64)) * (p3.toInt64)) * q4) / (p3.toInt64))))) s₁.heap _
  rw [e0]
  exact ⟨rfl, N0, rfl⟩
theorem ef_0 (m : MethodId) (x0 : Int64) (x1 : Int32) (x2 : Int32) (x3 : Int64) (x4 : Int64) : entryFrame m #[(.long x0), (.int x1), (.int x2), (.long x3), (.long x4)] maxLocals = mkF m 0 #[.val (.long x0), .second, .val (.int x1), .val (.int x2), .val (.long x3), .second, .val (.long x4), .second, .unset, .unset, .unset, .unset, .unset, .unset, .unset, .unset, .unset, .unset, .unset, .unset, .unset, .unset, .unset, .unset, .unset] [] := by first | (simp [entryFrame, mkF, argsToLocals, Value.category, maxLocals]; done) | rfl
def Q0 (Z : State) (q1 : Int64) (p2 : Int32) (p3 : Int32) (q4 : Int64) (q5 : Int64) (h0 : Heap) (n0 : Nat) (v : Option Value) (h : Heap) (L : List Loc) : Prop := v = some (.int 1) ∧ Fr n0 L
set_option maxRecDepth 65536 in
set_option maxHeartbeats 40000000 in
theorem rm0 (l : Launch) (Z : State) (a0 : Array Value) (hw : ∀ d ∈ tables_1, d.before a0 Z = true) (ws : List Jvm.Cond) (q1 : Int64) (p2 : Int32) (p3 : Int32) (q4 : Int64) (q5 : Int64) (h0 : Heap) (n0 : Nat) (Z0 : n0 ≤ h0.size) :
    MetFree l x (head1 (Jvm.Cond.code x code maxLocals ret :: ws) room_1) (fun a U => a = #[(.long q1), (.int p2), (.int p3), (.long q4), (.long q5)] ∧ Z.Warmed39 U.vm ∧ U.heap = h0) (fun _ _ _ _ _ => True) (fun _ U o U' => ∃ v L, o = .returned v ∧ Q0 Z q1 p2 p3 q4 q5 h0 n0 v U'.heap L ∧ FrameEnd U o U' L 0 0) := by
  refine MetFree.of_bodySF (plainFor_of_name pn_0) hisR ?_
  intro p e s m args below meth c s₁ Bd hml0 hP hK
  obtain ⟨rfl, hZ, hh⟩ := hP
  have hx := Bd.exec
  have hby := Bd.bytes
  have hml : c.maxLocals = 25 := hml0
  have hown : s.vm.findClass "moorholt/cli/LoadDuePinLaw" = some m.cls := findClass_of_methodNamed Bd.named
  have hnm := (name_of_methodNamed Bd.named Bd.method).1
  have X0 : Stand p l e room_1 s m #[(.long q1), (.int p2), (.int p3), (.long q4), (.long q5)] below meth c s₁ [] 0 0 := Stand.of_body Bd
  have e0 : s₁.heap = h0 := by rw [← hh, Bd.state]; rfl
  have N0 := Fr.nil n0
  show EndsQ p.tables e below s (fun v h L => Q0 Z q1 p2 p3 q4 q5 h0 n0 v h L) 0 0 _
  refine EndsQ.go (b := s₁.setTop (mkF m 0 #[.val (.long q1), .second, .val (.int p2), .val (.int p3), .val (.long q4), .second, .val (.long q5), .second, .unset, .unset, .unset, .unset, .unset, .unset, .unset, .unset, .unset, .unset, .unset, .unset, .unset, .unset, .unset, .unset, .unset] [])) (fun t k => castTop (ef_0 m q1 p2 p3 q4 q5) k) ?_
  refine EndsQ.go (b := s₁.setTop (mkF m 5 #[.val (.long q1), .second, .val (.int p2), .val (.int p3), .val (.long q4), .second, .val (.long q5), .second, .unset, .unset, .unset, .unset, .unset, .unset, .unset, .unset, .unset, .unset, .unset, .unset, .unset, .unset, .unset, .unset, .unset] [(.int (p2 &&& (1048575 : Int32))), (.int (1 : Int32))])) (fun t k => ?_) ?_
  · show Steps p.tables e below (s₁.setTop (mkF m 0 #[.val (.long q1), .second, .val (.int p2), .val (.int p3), .val (.long q4), .second, .val (.long q5), .second, .unset, .unset, .unset, .unset, .unset, .unset, .unset, .unset, .unset, .unset, .unset, .unset, .unset, .unset, .unset, .unset, .unset] [])) _
    refine XS.iconst X0.here hx rfl (hb hby at_0) ?_
    show Steps p.tables e below (s₁.setTop (mkF m 1 #[.val (.long q1), .second, .val (.int p2), .val (.int p3), .val (.long q4), .second, .val (.long q5), .second, .unset, .unset, .unset, .unset, .unset, .unset, .unset, .unset, .unset, .unset, .unset, .unset, .unset, .unset, .unset, .unset, .unset] [(.int (1 : Int32))])) _
    refine XS.iloadN X0.here hx rfl (hb hby at_1) rfl ?_
    show Steps p.tables e below (s₁.setTop (mkF m 2 #[.val (.long q1), .second, .val (.int p2), .val (.int p3), .val (.long q4), .second, .val (.long q5), .second, .unset, .unset, .unset, .unset, .unset, .unset, .unset, .unset, .unset, .unset, .unset, .unset, .unset, .unset, .unset, .unset, .unset] [(.int p2), (.int (1 : Int32))])) _
    refine X0.ldcInt hx hown (mvT hZ (hw _ (List.mem_of_getElem? (i := 0) rfl))) (g := (mkF m 2 #[.val (.long q1), .second, .val (.int p2), .val (.int p3), .val (.long q4), .second, .val (.long q5), .second, .unset, .unset, .unset, .unset, .unset, .unset, .unset, .unset, .unset, .unset, .unset, .unset, .unset, .unset, .unset, .unset, .unset] [(.int p2), (.int (1 : Int32))])) rfl (hb hby at_2) _ ?_
    show Steps p.tables e below (s₁.setTop (mkF m 4 #[.val (.long q1), .second, .val (.int p2), .val (.int p3), .val (.long q4), .second, .val (.long q5), .second, .unset, .unset, .unset, .unset, .unset, .unset, .unset, .unset, .unset, .unset, .unset, .unset, .unset, .unset, .unset, .unset, .unset] [(.int (1048575 : Int32)), (.int p2), (.int (1 : Int32))])) _
    refine XS.iand X0.here hx rfl (hb hby at_4) rfl ?_
    show Steps p.tables e below (s₁.setTop (mkF m 5 #[.val (.long q1), .second, .val (.int p2), .val (.int p3), .val (.long q4), .second, .val (.long q5), .second, .unset, .unset, .unset, .unset, .unset, .unset, .unset, .unset, .unset, .unset, .unset, .unset, .unset, .unset, .unset, .unset, .unset] [(.int (p2 &&& (1048575 : Int32))), (.int (1 : Int32))])) _
    exact k
  obtain ⟨_, _, ⟨T101, L101, kk101, nn101⟩, -, X101, ⟨Lc101, hQ101, l101, y101, z101⟩, st101⟩ := Jvm.LawKit.callS X0 hx (y := (⟨"java/lang/Math", "max", "(II)I"⟩ : MethodName)) hown (mvT hZ (hw _ (List.mem_of_getElem? (i := 1) rfl))) (mvT hZ (hw _ (List.mem_of_getElem? (i := 2) rfl))) (mvT hZ (hw _ (List.mem_of_getElem? (i := 3) rfl))) (mvT hZ (hw _ (List.mem_of_getElem? (i := 4) rfl))) (by decide) (backOf (W := 0) (rm1 l Z a0 hw [] (1 : Int32) (p2 &&& (1048575 : Int32)) h0 n0 Z0) hZ (hw _ (List.mem_of_getElem? (i := 4) rfl)) (hw _ (List.mem_of_getElem? (i := 3) rfl)) (by decide) (by decide)) (g := (mkF m 5 #[.val (.long q1), .second, .val (.int p2), .val (.int p3), .val (.long q4), .second, .val (.long q5), .second, .unset, .unset, .unset, .unset, .unset, .unset, .unset, .unset, .unset, .unset, .unset, .unset, .unset, .unset, .unset, .unset, .unset] [(.int (p2 &&& (1048575 : Int32))), (.int (1 : Int32))])) rfl (by rw [hml]; rfl) (argsL := [(.int (1 : Int32)), (.int (p2 &&& (1048575 : Int32)))]) (rest := []) (lenOf pd_0 rfl) rfl (by show 2 * 0 + _ ≤ _; exact Nat.le_of_eq rfl) (hb hby at_5) (fun _ _ => ⟨rfl, e0, (by decide : 0 + 0 ≤ _), (by decide : 0 + 0 ≤ _)⟩)
  dsimp only [Pt.U, Pt.locs, Pt.cells, Pt.slots] at X101 l101 y101 z101 st101 hQ101
  subst l101 y101 z101
  obtain ⟨rfl, Nq101, eq101⟩ := hQ101
  have N101 := Fr.app N0 Nq101
  refine EndsQ.go st101 ?_
  show EndsQ _ _ _ _ _ _ _ (T101.setTop (mkF m 8 #[.val (.long q1), .second, .val (.int p2), .val (.int p3), .val (.long q4), .second, .val (.long q5), .second, .unset, .unset, .unset, .unset, .unset, .unset, .unset, .unset, .unset, .unset, .unset, .unset, .unset, .unset, .unset, .unset, .unset] [(.int (own_max (1 : Int32) (p2 &&& (1048575 : Int32))))]))
  refine EndsQ.go (b := T101.setTop (mkF m 10 #[.val (.long q1), .second, .val (.int p2), .val (.int p3), .val (.long q4), .second, .val (.long q5), .second, .val (.int (own_max (1 : Int32) (p2 &&& (1048575 : Int32)))), .unset, .unset, .unset, .unset, .unset, .unset, .unset, .unset, .unset, .unset, .unset, .unset, .unset, .unset, .unset, .unset] [])) (fun t k => ?_) ?_
  · show Steps p.tables e below (T101.setTop (mkF m 8 #[.val (.long q1), .second, .val (.int p2), .val (.int p3), .val (.long q4), .second, .val (.long q5), .second, .unset, .unset, .unset, .unset, .unset, .unset, .unset, .unset, .unset, .unset, .unset, .unset, .unset, .unset, .unset, .unset, .unset] [(.int (own_max (1 : Int32) (p2 &&& (1048575 : Int32))))])) _
    refine XS.istore X101.here hx rfl (hb hby at_8) rfl (l' := #[.val (.long q1), .second, .val (.int p2), .val (.int p3), .val (.long q4), .second, .val (.long q5), .second, .val (.int (own_max (1 : Int32) (p2 &&& (1048575 : Int32)))), .unset, .unset, .unset, .unset, .unset, .unset, .unset, .unset, .unset, .unset, .unset, .unset, .unset, .unset, .unset, .unset]) rfl ?_
    show Steps p.tables e below (T101.setTop (mkF m 10 #[.val (.long q1), .second, .val (.int p2), .val (.int p3), .val (.long q4), .second, .val (.long q5), .second, .val (.int (own_max (1 : Int32) (p2 &&& (1048575 : Int32)))), .unset, .unset, .unset, .unset, .unset, .unset, .unset, .unset, .unset, .unset, .unset, .unset, .unset, .unset, .unset, .unset] [])) _
    exact k
  generalize hv_c1 : (own_max (1 : Int32) (p2 &&& (1048575 : Int32))) = c1
  have hb_c : 1 ≤ c1.toInt ∧ c1.toInt ≤ 1048575 := by rw [← hv_c1]; exact own_c p2
  show EndsQ _ _ _ _ _ _ _ (T101.setTop (mkF m 10 #[.val (.long q1), .second, .val (.int p2), .val (.int p3), .val (.long q4), .second, .val (.long q5), .second, .val (.int c1), .unset, .unset, .unset, .unset, .unset, .unset, .unset, .unset, .unset, .unset, .unset, .unset, .unset, .unset, .unset, .unset] []))
  refine EndsQ.go (b := T101.setTop (mkF m 20 #[.val (.long q1), .second, .val (.int p2), .val (.int p3), .val (.long q4), .second, .val (.long q5), .second, .val (.int c1), .val (.long (((p3 &&& (2147483647 : Int32)) % c1).toInt64)), .second, .unset, .unset, .unset, .unset, .unset, .unset, .unset, .unset, .unset, .unset, .unset, .unset, .unset, .unset] [])) (fun t k => ?_) ?_
  · show Steps p.tables e below (T101.setTop (mkF m 10 #[.val (.long q1), .second, .val (.int p2), .val (.int p3), .val (.long q4), .second, .val (.long q5), .second, .val (.int c1), .unset, .unset, .unset, .unset, .unset, .unset, .unset, .unset, .unset, .unset, .unset, .unset, .unset, .unset, .unset, .unset] [])) _
    refine XS.iloadN X101.here hx rfl (hb hby at_10) rfl ?_
    show Steps p.tables e below (T101.setTop (mkF m 11 #[.val (.long q1), .second, .val (.int p2), .val (.int p3), .val (.long q4), .second, .val (.long q5), .second, .val (.int c1), .unset, .unset, .unset, .unset, .unset, .unset, .unset, .unset, .unset, .unset, .unset, .unset, .unset, .unset, .unset, .unset] [(.int p3)])) _
    refine X101.ldcInt hx hown (mvT hZ (hw _ (List.mem_of_getElem? (i := 5) rfl))) (g := (mkF m 11 #[.val (.long q1), .second, .val (.int p2), .val (.int p3), .val (.long q4), .second, .val (.long q5), .second, .val (.int c1), .unset, .unset, .unset, .unset, .unset, .unset, .unset, .unset, .unset, .unset, .unset, .unset, .unset, .unset, .unset, .unset] [(.int p3)])) rfl (hb hby at_11) _ ?_
    show Steps p.tables e below (T101.setTop (mkF m 13 #[.val (.long q1), .second, .val (.int p2), .val (.int p3), .val (.long q4), .second, .val (.long q5), .second, .val (.int c1), .unset, .unset, .unset, .unset, .unset, .unset, .unset, .unset, .unset, .unset, .unset, .unset, .unset, .unset, .unset, .unset] [(.int (2147483647 : Int32)), (.int p3)])) _
    refine XS.iand X101.here hx rfl (hb hby at_13) rfl ?_
    show Steps p.tables e below (T101.setTop (mkF m 14 #[.val (.long q1), .second, .val (.int p2), .val (.int p3), .val (.long q4), .second, .val (.long q5), .second, .val (.int c1), .unset, .unset, .unset, .unset, .unset, .unset, .unset, .unset, .unset, .unset, .unset, .unset, .unset, .unset, .unset, .unset] [(.int (p3 &&& (2147483647 : Int32)))])) _
    refine XS.iload X101.here hx rfl (hb hby at_14) rfl ?_
    show Steps p.tables e below (T101.setTop (mkF m 16 #[.val (.long q1), .second, .val (.int p2), .val (.int p3), .val (.long q4), .second, .val (.long q5), .second, .val (.int c1), .unset, .unset, .unset, .unset, .unset, .unset, .unset, .unset, .unset, .unset, .unset, .unset, .unset, .unset, .unset, .unset] [(.int c1), (.int (p3 &&& (2147483647 : Int32)))])) _
    refine iremM X101 hx rfl (hb hby at_16) rfl (own_nz c1 hb_c.1) ?_
    show Steps p.tables e below (T101.setTop (mkF m 17 #[.val (.long q1), .second, .val (.int p2), .val (.int p3), .val (.long q4), .second, .val (.long q5), .second, .val (.int c1), .unset, .unset, .unset, .unset, .unset, .unset, .unset, .unset, .unset, .unset, .unset, .unset, .unset, .unset, .unset, .unset] [(.int ((p3 &&& (2147483647 : Int32)) % c1))])) _
    refine XS.i2l X101.here hx rfl (hb hby at_17) rfl ?_
    show Steps p.tables e below (T101.setTop (mkF m 18 #[.val (.long q1), .second, .val (.int p2), .val (.int p3), .val (.long q4), .second, .val (.long q5), .second, .val (.int c1), .unset, .unset, .unset, .unset, .unset, .unset, .unset, .unset, .unset, .unset, .unset, .unset, .unset, .unset, .unset, .unset] [(.long (((p3 &&& (2147483647 : Int32)) % c1).toInt64))])) _
    refine XS.lstore X101.here hx rfl (hb hby at_18) rfl (l' := #[.val (.long q1), .second, .val (.int p2), .val (.int p3), .val (.long q4), .second, .val (.long q5), .second, .val (.int c1), .val (.long (((p3 &&& (2147483647 : Int32)) % c1).toInt64)), .second, .unset, .unset, .unset, .unset, .unset, .unset, .unset, .unset, .unset, .unset, .unset, .unset, .unset, .unset]) rfl ?_
    show Steps p.tables e below (T101.setTop (mkF m 20 #[.val (.long q1), .second, .val (.int p2), .val (.int p3), .val (.long q4), .second, .val (.long q5), .second, .val (.int c1), .val (.long (((p3 &&& (2147483647 : Int32)) % c1).toInt64)), .second, .unset, .unset, .unset, .unset, .unset, .unset, .unset, .unset, .unset, .unset, .unset, .unset, .unset, .unset] [])) _
    exact k
  generalize hv_k1 : (((p3 &&& (2147483647 : Int32)) % c1).toInt64) = k1
  have hb_k : 0 ≤ k1.toInt ∧ k1.toInt < c1.toInt := by rw [← hv_k1]; exact own_k p3 c1 hb_c.1
  show EndsQ _ _ _ _ _ _ _ (T101.setTop (mkF m 20 #[.val (.long q1), .second, .val (.int p2), .val (.int p3), .val (.long q4), .second, .val (.long q5), .second, .val (.int c1), .val (.long k1), .second, .unset, .unset, .unset, .unset, .unset, .unset, .unset, .unset, .unset, .unset, .unset, .unset, .unset, .unset] []))
  refine EndsQ.go (b := T101.setTop (mkF m 28 #[.val (.long q1), .second, .val (.int p2), .val (.int p3), .val (.long q4), .second, .val (.long q5), .second, .val (.int c1), .val (.long k1), .second, .val (.long (q4 &&& (1048575 : Int64))), .second, .unset, .unset, .unset, .unset, .unset, .unset, .unset, .unset, .unset, .unset, .unset, .unset] [])) (fun t k => ?_) ?_
  · show Steps p.tables e below (T101.setTop (mkF m 20 #[.val (.long q1), .second, .val (.int p2), .val (.int p3), .val (.long q4), .second, .val (.long q5), .second, .val (.int c1), .val (.long k1), .second, .unset, .unset, .unset, .unset, .unset, .unset, .unset, .unset, .unset, .unset, .unset, .unset, .unset, .unset] [])) _
    refine XS.lload X101.here hx rfl (hb hby at_20) rfl ?_
    show Steps p.tables e below (T101.setTop (mkF m 22 #[.val (.long q1), .second, .val (.int p2), .val (.int p3), .val (.long q4), .second, .val (.long q5), .second, .val (.int c1), .val (.long k1), .second, .unset, .unset, .unset, .unset, .unset, .unset, .unset, .unset, .unset, .unset, .unset, .unset, .unset, .unset] [(.long q4)])) _
    refine X101.ldc2Long hx hown (mvT hZ (hw _ (List.mem_of_getElem? (i := 6) rfl))) (g := (mkF m 22 #[.val (.long q1), .second, .val (.int p2), .val (.int p3), .val (.long q4), .second, .val (.long q5), .second, .val (.int c1), .val (.long k1), .second, .unset, .unset, .unset, .unset, .unset, .unset, .unset, .unset, .unset, .unset, .unset, .unset, .unset, .unset] [(.long q4)])) rfl (hb hby at_22) _ ?_
    show Steps p.tables e below (T101.setTop (mkF m 25 #[.val (.long q1), .second, .val (.int p2), .val (.int p3), .val (.long q4), .second, .val (.long q5), .second, .val (.int c1), .val (.long k1), .second, .unset, .unset, .unset, .unset, .unset, .unset, .unset, .unset, .unset, .unset, .unset, .unset, .unset, .unset] [(.long (1048575 : Int64)), (.long q4)])) _
    refine XS.land X101.here hx rfl (hb hby at_25) rfl ?_
    show Steps p.tables e below (T101.setTop (mkF m 26 #[.val (.long q1), .second, .val (.int p2), .val (.int p3), .val (.long q4), .second, .val (.long q5), .second, .val (.int c1), .val (.long k1), .second, .unset, .unset, .unset, .unset, .unset, .unset, .unset, .unset, .unset, .unset, .unset, .unset, .unset, .unset] [(.long (q4 &&& (1048575 : Int64)))])) _
    refine XS.lstore X101.here hx rfl (hb hby at_26) rfl (l' := #[.val (.long q1), .second, .val (.int p2), .val (.int p3), .val (.long q4), .second, .val (.long q5), .second, .val (.int c1), .val (.long k1), .second, .val (.long (q4 &&& (1048575 : Int64))), .second, .unset, .unset, .unset, .unset, .unset, .unset, .unset, .unset, .unset, .unset, .unset, .unset]) rfl ?_
    show Steps p.tables e below (T101.setTop (mkF m 28 #[.val (.long q1), .second, .val (.int p2), .val (.int p3), .val (.long q4), .second, .val (.long q5), .second, .val (.int c1), .val (.long k1), .second, .val (.long (q4 &&& (1048575 : Int64))), .second, .unset, .unset, .unset, .unset, .unset, .unset, .unset, .unset, .unset, .unset, .unset, .unset] [])) _
    exact k
  generalize hv_qq : (q4 &&& (1048575 : Int64)) = qq
  have hb_q : 0 ≤ qq.toInt ∧ qq.toInt ≤ 1048575 := by rw [← hv_qq]; exact own_q q4
  show EndsQ _ _ _ _ _ _ _ (T101.setTop (mkF m 28 #[.val (.long q1), .second, .val (.int p2), .val (.int p3), .val (.long q4), .second, .val (.long q5), .second, .val (.int c1), .val (.long k1), .second, .val (.long qq), .second, .unset, .unset, .unset, .unset, .unset, .unset, .unset, .unset, .unset, .unset, .unset, .unset] []))
  refine EndsQ.go (b := T101.setTop (mkF m 36 #[.val (.long q1), .second, .val (.int p2), .val (.int p3), .val (.long q4), .second, .val (.long q5), .second, .val (.int c1), .val (.long k1), .second, .val (.long qq), .second, .val (.long (q5 &&& (4398046511103 : Int64))), .second, .unset, .unset, .unset, .unset, .unset, .unset, .unset, .unset, .unset, .unset] [])) (fun t k => ?_) ?_
  · show Steps p.tables e below (T101.setTop (mkF m 28 #[.val (.long q1), .second, .val (.int p2), .val (.int p3), .val (.long q4), .second, .val (.long q5), .second, .val (.int c1), .val (.long k1), .second, .val (.long qq), .second, .unset, .unset, .unset, .unset, .unset, .unset, .unset, .unset, .unset, .unset, .unset, .unset] [])) _
    refine XS.lload X101.here hx rfl (hb hby at_28) rfl ?_
    show Steps p.tables e below (T101.setTop (mkF m 30 #[.val (.long q1), .second, .val (.int p2), .val (.int p3), .val (.long q4), .second, .val (.long q5), .second, .val (.int c1), .val (.long k1), .second, .val (.long qq), .second, .unset, .unset, .unset, .unset, .unset, .unset, .unset, .unset, .unset, .unset, .unset, .unset] [(.long q5)])) _
    refine X101.ldc2Long hx hown (mvT hZ (hw _ (List.mem_of_getElem? (i := 7) rfl))) (g := (mkF m 30 #[.val (.long q1), .second, .val (.int p2), .val (.int p3), .val (.long q4), .second, .val (.long q5), .second, .val (.int c1), .val (.long k1), .second, .val (.long qq), .second, .unset, .unset, .unset, .unset, .unset, .unset, .unset, .unset, .unset, .unset, .unset, .unset] [(.long q5)])) rfl (hb hby at_30) _ ?_
    show Steps p.tables e below (T101.setTop (mkF m 33 #[.val (.long q1), .second, .val (.int p2), .val (.int p3), .val (.long q4), .second, .val (.long q5), .second, .val (.int c1), .val (.long k1), .second, .val (.long qq), .second, .unset, .unset, .unset, .unset, .unset, .unset, .unset, .unset, .unset, .unset, .unset, .unset] [(.long (4398046511103 : Int64)), (.long q5)])) _
    refine XS.land X101.here hx rfl (hb hby at_33) rfl ?_
    show Steps p.tables e below (T101.setTop (mkF m 34 #[.val (.long q1), .second, .val (.int p2), .val (.int p3), .val (.long q4), .second, .val (.long q5), .second, .val (.int c1), .val (.long k1), .second, .val (.long qq), .second, .unset, .unset, .unset, .unset, .unset, .unset, .unset, .unset, .unset, .unset, .unset, .unset] [(.long (q5 &&& (4398046511103 : Int64)))])) _
    refine XS.lstore X101.here hx rfl (hb hby at_34) rfl (l' := #[.val (.long q1), .second, .val (.int p2), .val (.int p3), .val (.long q4), .second, .val (.long q5), .second, .val (.int c1), .val (.long k1), .second, .val (.long qq), .second, .val (.long (q5 &&& (4398046511103 : Int64))), .second, .unset, .unset, .unset, .unset, .unset, .unset, .unset, .unset, .unset, .unset]) rfl ?_
    show Steps p.tables e below (T101.setTop (mkF m 36 #[.val (.long q1), .second, .val (.int p2), .val (.int p3), .val (.long q4), .second, .val (.long q5), .second, .val (.int c1), .val (.long k1), .second, .val (.long qq), .second, .val (.long (q5 &&& (4398046511103 : Int64))), .second, .unset, .unset, .unset, .unset, .unset, .unset, .unset, .unset, .unset, .unset] [])) _
    exact k
  generalize hv_pp : (q5 &&& (4398046511103 : Int64)) = pp
  have hb_p : 0 ≤ pp.toInt ∧ pp.toInt ≤ 4398046511103 := by rw [← hv_pp]; exact own_p q5
  show EndsQ _ _ _ _ _ _ _ (T101.setTop (mkF m 36 #[.val (.long q1), .second, .val (.int p2), .val (.int p3), .val (.long q4), .second, .val (.long q5), .second, .val (.int c1), .val (.long k1), .second, .val (.long qq), .second, .val (.long pp), .second, .unset, .unset, .unset, .unset, .unset, .unset, .unset, .unset, .unset, .unset] []))
  refine EndsQ.go (b := T101.setTop (mkF m 54 #[.val (.long q1), .second, .val (.int p2), .val (.int p3), .val (.long q4), .second, .val (.long q5), .second, .val (.int c1), .val (.long k1), .second, .val (.long qq), .second, .val (.long pp), .second, .val (.long ((qq * (c1.toInt64)) + k1)), .second, .unset, .unset, .unset, .unset, .unset, .unset, .unset, .unset] [(.long pp), (.int c1), (.long ((qq * (c1.toInt64)) + k1)), (.long q1)])) (fun t k => ?_) ?_
  · show Steps p.tables e below (T101.setTop (mkF m 36 #[.val (.long q1), .second, .val (.int p2), .val (.int p3), .val (.long q4), .second, .val (.long q5), .second, .val (.int c1), .val (.long k1), .second, .val (.long qq), .second, .val (.long pp), .second, .unset, .unset, .unset, .unset, .unset, .unset, .unset, .unset, .unset, .unset] [])) _
    refine XS.lload X101.here hx rfl (hb hby at_36) rfl ?_
    show Steps p.tables e below (T101.setTop (mkF m 38 #[.val (.long q1), .second, .val (.int p2), .val (.int p3), .val (.long q4), .second, .val (.long q5), .second, .val (.int c1), .val (.long k1), .second, .val (.long qq), .second, .val (.long pp), .second, .unset, .unset, .unset, .unset, .unset, .unset, .unset, .unset, .unset, .unset] [(.long qq)])) _
    refine XS.iload X101.here hx rfl (hb hby at_38) rfl ?_
    show Steps p.tables e below (T101.setTop (mkF m 40 #[.val (.long q1), .second, .val (.int p2), .val (.int p3), .val (.long q4), .second, .val (.long q5), .second, .val (.int c1), .val (.long k1), .second, .val (.long qq), .second, .val (.long pp), .second, .unset, .unset, .unset, .unset, .unset, .unset, .unset, .unset, .unset, .unset] [(.int c1), (.long qq)])) _
    refine XS.i2l X101.here hx rfl (hb hby at_40) rfl ?_
    show Steps p.tables e below (T101.setTop (mkF m 41 #[.val (.long q1), .second, .val (.int p2), .val (.int p3), .val (.long q4), .second, .val (.long q5), .second, .val (.int c1), .val (.long k1), .second, .val (.long qq), .second, .val (.long pp), .second, .unset, .unset, .unset, .unset, .unset, .unset, .unset, .unset, .unset, .unset] [(.long (c1.toInt64)), (.long qq)])) _
    refine XS.lmul X101.here hx rfl (hb hby at_41) rfl ?_
    show Steps p.tables e below (T101.setTop (mkF m 42 #[.val (.long q1), .second, .val (.int p2), .val (.int p3), .val (.long q4), .second, .val (.long q5), .second, .val (.int c1), .val (.long k1), .second, .val (.long qq), .second, .val (.long pp), .second, .unset, .unset, .unset, .unset, .unset, .unset, .unset, .unset, .unset, .unset] [(.long (qq * (c1.toInt64)))])) _
    refine XS.lload X101.here hx rfl (hb hby at_42) rfl ?_
    show Steps p.tables e below (T101.setTop (mkF m 44 #[.val (.long q1), .second, .val (.int p2), .val (.int p3), .val (.long q4), .second, .val (.long q5), .second, .val (.int c1), .val (.long k1), .second, .val (.long qq), .second, .val (.long pp), .second, .unset, .unset, .unset, .unset, .unset, .unset, .unset, .unset, .unset, .unset] [(.long k1), (.long (qq * (c1.toInt64)))])) _
    refine XS.ladd X101.here hx rfl (hb hby at_44) rfl ?_
    show Steps p.tables e below (T101.setTop (mkF m 45 #[.val (.long q1), .second, .val (.int p2), .val (.int p3), .val (.long q4), .second, .val (.long q5), .second, .val (.int c1), .val (.long k1), .second, .val (.long qq), .second, .val (.long pp), .second, .unset, .unset, .unset, .unset, .unset, .unset, .unset, .unset, .unset, .unset] [(.long ((qq * (c1.toInt64)) + k1))])) _
    refine XS.lstore X101.here hx rfl (hb hby at_45) rfl (l' := #[.val (.long q1), .second, .val (.int p2), .val (.int p3), .val (.long q4), .second, .val (.long q5), .second, .val (.int c1), .val (.long k1), .second, .val (.long qq), .second, .val (.long pp), .second, .val (.long ((qq * (c1.toInt64)) + k1)), .second, .unset, .unset, .unset, .unset, .unset, .unset, .unset, .unset]) rfl ?_
    show Steps p.tables e below (T101.setTop (mkF m 47 #[.val (.long q1), .second, .val (.int p2), .val (.int p3), .val (.long q4), .second, .val (.long q5), .second, .val (.int c1), .val (.long k1), .second, .val (.long qq), .second, .val (.long pp), .second, .val (.long ((qq * (c1.toInt64)) + k1)), .second, .unset, .unset, .unset, .unset, .unset, .unset, .unset, .unset] [])) _
    refine XS.lloadN X101.here hx rfl (hb hby at_47) rfl ?_
    show Steps p.tables e below (T101.setTop (mkF m 48 #[.val (.long q1), .second, .val (.int p2), .val (.int p3), .val (.long q4), .second, .val (.long q5), .second, .val (.int c1), .val (.long k1), .second, .val (.long qq), .second, .val (.long pp), .second, .val (.long ((qq * (c1.toInt64)) + k1)), .second, .unset, .unset, .unset, .unset, .unset, .unset, .unset, .unset] [(.long q1)])) _
    refine XS.lload X101.here hx rfl (hb hby at_48) rfl ?_
    show Steps p.tables e below (T101.setTop (mkF m 50 #[.val (.long q1), .second, .val (.int p2), .val (.int p3), .val (.long q4), .second, .val (.long q5), .second, .val (.int c1), .val (.long k1), .second, .val (.long qq), .second, .val (.long pp), .second, .val (.long ((qq * (c1.toInt64)) + k1)), .second, .unset, .unset, .unset, .unset, .unset, .unset, .unset, .unset] [(.long ((qq * (c1.toInt64)) + k1)), (.long q1)])) _
    refine XS.iload X101.here hx rfl (hb hby at_50) rfl ?_
    show Steps p.tables e below (T101.setTop (mkF m 52 #[.val (.long q1), .second, .val (.int p2), .val (.int p3), .val (.long q4), .second, .val (.long q5), .second, .val (.int c1), .val (.long k1), .second, .val (.long qq), .second, .val (.long pp), .second, .val (.long ((qq * (c1.toInt64)) + k1)), .second, .unset, .unset, .unset, .unset, .unset, .unset, .unset, .unset] [(.int c1), (.long ((qq * (c1.toInt64)) + k1)), (.long q1)])) _
    refine XS.lload X101.here hx rfl (hb hby at_52) rfl ?_
    show Steps p.tables e below (T101.setTop (mkF m 54 #[.val (.long q1), .second, .val (.int p2), .val (.int p3), .val (.long q4), .second, .val (.long q5), .second, .val (.int c1), .val (.long k1), .second, .val (.long qq), .second, .val (.long pp), .second, .val (.long ((qq * (c1.toInt64)) + k1)), .second, .unset, .unset, .unset, .unset, .unset, .unset, .unset, .unset] [(.long pp), (.int c1), (.long ((qq * (c1.toInt64)) + k1)), (.long q1)])) _
    exact k
  obtain ⟨_, _, ⟨T102, L102, kk102, nn102⟩, -, X102, ⟨Lc102, hQ102, l102, y102, z102⟩, st102⟩ := Jvm.LawKit.callS X101 hx (y := (⟨"moorholt/cli/Load", "due", "(JJIJ)J"⟩ : MethodName)) hown (mvT hZ (hw _ (List.mem_of_getElem? (i := 8) rfl))) (mvT hZ (hw _ (List.mem_of_getElem? (i := 9) rfl))) (mvT hZ (hw _ (List.mem_of_getElem? (i := 10) rfl))) (mvT hZ (hw _ (List.mem_of_getElem? (i := 11) rfl))) (by decide) (backOf (W := 0) (rm2 l Z a0 hw [] q1 ((qq * (c1.toInt64)) + k1) c1 pp h0 n0 Z0 (own_nzL c1 hb_c.1)) hZ (hw _ (List.mem_of_getElem? (i := 11) rfl)) (hw _ (List.mem_of_getElem? (i := 10) rfl)) (by decide) (by decide)) (g := (mkF m 54 #[.val (.long q1), .second, .val (.int p2), .val (.int p3), .val (.long q4), .second, .val (.long q5), .second, .val (.int c1), .val (.long k1), .second, .val (.long qq), .second, .val (.long pp), .second, .val (.long ((qq * (c1.toInt64)) + k1)), .second, .unset, .unset, .unset, .unset, .unset, .unset, .unset, .unset] [(.long pp), (.int c1), (.long ((qq * (c1.toInt64)) + k1)), (.long q1)])) rfl (by rw [hml]; rfl) (argsL := [(.long q1), (.long ((qq * (c1.toInt64)) + k1)), (.int c1), (.long pp)]) (rest := []) (lenOf pd_1 rfl) rfl (by show 2 * 0 + _ ≤ _; exact Nat.le_of_eq rfl) (hb hby at_54) (fun _ _ => ⟨rfl, eq101, (by decide : 0 + 0 ≤ _), (by decide : 0 + 0 ≤ _)⟩)
  dsimp only [Pt.U, Pt.locs, Pt.cells, Pt.slots] at X102 l102 y102 z102 st102 hQ102
  subst l102 y102 z102
  obtain ⟨rfl, Nq102, eq102⟩ := hQ102
  have N102 := Fr.app N101 Nq102
  refine EndsQ.go st102 ?_
  show EndsQ _ _ _ _ _ _ _ (T102.setTop (mkF m 57 #[.val (.long q1), .second, .val (.int p2), .val (.int p3), .val (.long q4), .second, .val (.long q5), .second, .val (.int c1), .val (.long k1), .second, .val (.long qq), .second, .val (.long pp), .second, .val (.long ((qq * (c1.toInt64)) + k1)), .second, .unset, .unset, .unset, .unset, .unset, .unset, .unset, .unset] [(.long (own_due q1 ((qq * (c1.toInt64)) + k1) c1 pp))]))
  refine EndsQ.go (b := T102.setTop (mkF m 71 #[.val (.long q1), .second, .val (.int p2), .val (.int p3), .val (.long q4), .second, .val (.long q5), .second, .val (.int c1), .val (.long k1), .second, .val (.long qq), .second, .val (.long pp), .second, .val (.long ((qq * (c1.toInt64)) + k1)), .second, .val (.long (own_due q1 ((qq * (c1.toInt64)) + k1) c1 pp)), .second, .val (.long (((own_due q1 ((qq * (c1.toInt64)) + k1) c1 pp) - q1) - (qq * pp))), .second, .unset, .unset, .unset, .unset] [])) (fun t k => ?_) ?_
  · show Steps p.tables e below (T102.setTop (mkF m 57 #[.val (.long q1), .second, .val (.int p2), .val (.int p3), .val (.long q4), .second, .val (.long q5), .second, .val (.int c1), .val (.long k1), .second, .val (.long qq), .second, .val (.long pp), .second, .val (.long ((qq * (c1.toInt64)) + k1)), .second, .unset, .unset, .unset, .unset, .unset, .unset, .unset, .unset] [(.long (own_due q1 ((qq * (c1.toInt64)) + k1) c1 pp))])) _
    refine XS.lstore X102.here hx rfl (hb hby at_57) rfl (l' := #[.val (.long q1), .second, .val (.int p2), .val (.int p3), .val (.long q4), .second, .val (.long q5), .second, .val (.int c1), .val (.long k1), .second, .val (.long qq), .second, .val (.long pp), .second, .val (.long ((qq * (c1.toInt64)) + k1)), .second, .val (.long (own_due q1 ((qq * (c1.toInt64)) + k1) c1 pp)), .second, .unset, .unset, .unset, .unset, .unset, .unset]) rfl ?_
    show Steps p.tables e below (T102.setTop (mkF m 59 #[.val (.long q1), .second, .val (.int p2), .val (.int p3), .val (.long q4), .second, .val (.long q5), .second, .val (.int c1), .val (.long k1), .second, .val (.long qq), .second, .val (.long pp), .second, .val (.long ((qq * (c1.toInt64)) + k1)), .second, .val (.long (own_due q1 ((qq * (c1.toInt64)) + k1) c1 pp)), .second, .unset, .unset, .unset, .unset, .unset, .unset] [])) _
    refine XS.lload X102.here hx rfl (hb hby at_59) rfl ?_
    show Steps p.tables e below (T102.setTop (mkF m 61 #[.val (.long q1), .second, .val (.int p2), .val (.int p3), .val (.long q4), .second, .val (.long q5), .second, .val (.int c1), .val (.long k1), .second, .val (.long qq), .second, .val (.long pp), .second, .val (.long ((qq * (c1.toInt64)) + k1)), .second, .val (.long (own_due q1 ((qq * (c1.toInt64)) + k1) c1 pp)), .second, .unset, .unset, .unset, .unset, .unset, .unset] [(.long (own_due q1 ((qq * (c1.toInt64)) + k1) c1 pp))])) _
    refine XS.lloadN X102.here hx rfl (hb hby at_61) rfl ?_
    show Steps p.tables e below (T102.setTop (mkF m 62 #[.val (.long q1), .second, .val (.int p2), .val (.int p3), .val (.long q4), .second, .val (.long q5), .second, .val (.int c1), .val (.long k1), .second, .val (.long qq), .second, .val (.long pp), .second, .val (.long ((qq * (c1.toInt64)) + k1)), .second, .val (.long (own_due q1 ((qq * (c1.toInt64)) + k1) c1 pp)), .second, .unset, .unset, .unset, .unset, .unset, .unset] [(.long q1), (.long (own_due q1 ((qq * (c1.toInt64)) + k1) c1 pp))])) _
    refine XS.lsub X102.here hx rfl (hb hby at_62) rfl ?_
    show Steps p.tables e below (T102.setTop (mkF m 63 #[.val (.long q1), .second, .val (.int p2), .val (.int p3), .val (.long q4), .second, .val (.long q5), .second, .val (.int c1), .val (.long k1), .second, .val (.long qq), .second, .val (.long pp), .second, .val (.long ((qq * (c1.toInt64)) + k1)), .second, .val (.long (own_due q1 ((qq * (c1.toInt64)) + k1) c1 pp)), .second, .unset, .unset, .unset, .unset, .unset, .unset] [(.long ((own_due q1 ((qq * (c1.toInt64)) + k1) c1 pp) - q1))])) _
    refine XS.lload X102.here hx rfl (hb hby at_63) rfl ?_
    show Steps p.tables e below (T102.setTop (mkF m 65 #[.val (.long q1), .second, .val (.int p2), .val (.int p3), .val (.long q4), .second, .val (.long q5), .second, .val (.int c1), .val (.long k1), .second, .val (.long qq), .second, .val (.long pp), .second, .val (.long ((qq * (c1.toInt64)) + k1)), .second, .val (.long (own_due q1 ((qq * (c1.toInt64)) + k1) c1 pp)), .second, .unset, .unset, .unset, .unset, .unset, .unset] [(.long qq), (.long ((own_due q1 ((qq * (c1.toInt64)) + k1) c1 pp) - q1))])) _
    refine XS.lload X102.here hx rfl (hb hby at_65) rfl ?_
    show Steps p.tables e below (T102.setTop (mkF m 67 #[.val (.long q1), .second, .val (.int p2), .val (.int p3), .val (.long q4), .second, .val (.long q5), .second, .val (.int c1), .val (.long k1), .second, .val (.long qq), .second, .val (.long pp), .second, .val (.long ((qq * (c1.toInt64)) + k1)), .second, .val (.long (own_due q1 ((qq * (c1.toInt64)) + k1) c1 pp)), .second, .unset, .unset, .unset, .unset, .unset, .unset] [(.long pp), (.long qq), (.long ((own_due q1 ((qq * (c1.toInt64)) + k1) c1 pp) - q1))])) _
    refine XS.lmul X102.here hx rfl (hb hby at_67) rfl ?_
    show Steps p.tables e below (T102.setTop (mkF m 68 #[.val (.long q1), .second, .val (.int p2), .val (.int p3), .val (.long q4), .second, .val (.long q5), .second, .val (.int c1), .val (.long k1), .second, .val (.long qq), .second, .val (.long pp), .second, .val (.long ((qq * (c1.toInt64)) + k1)), .second, .val (.long (own_due q1 ((qq * (c1.toInt64)) + k1) c1 pp)), .second, .unset, .unset, .unset, .unset, .unset, .unset] [(.long (qq * pp)), (.long ((own_due q1 ((qq * (c1.toInt64)) + k1) c1 pp) - q1))])) _
    refine XS.lsub X102.here hx rfl (hb hby at_68) rfl ?_
    show Steps p.tables e below (T102.setTop (mkF m 69 #[.val (.long q1), .second, .val (.int p2), .val (.int p3), .val (.long q4), .second, .val (.long q5), .second, .val (.int c1), .val (.long k1), .second, .val (.long qq), .second, .val (.long pp), .second, .val (.long ((qq * (c1.toInt64)) + k1)), .second, .val (.long (own_due q1 ((qq * (c1.toInt64)) + k1) c1 pp)), .second, .unset, .unset, .unset, .unset, .unset, .unset] [(.long (((own_due q1 ((qq * (c1.toInt64)) + k1) c1 pp) - q1) - (qq * pp)))])) _
    refine XS.lstore X102.here hx rfl (hb hby at_69) rfl (l' := #[.val (.long q1), .second, .val (.int p2), .val (.int p3), .val (.long q4), .second, .val (.long q5), .second, .val (.int c1), .val (.long k1), .second, .val (.long qq), .second, .val (.long pp), .second, .val (.long ((qq * (c1.toInt64)) + k1)), .second, .val (.long (own_due q1 ((qq * (c1.toInt64)) + k1) c1 pp)), .second, .val (.long (((own_due q1 ((qq * (c1.toInt64)) + k1) c1 pp) - q1) - (qq * pp))), .second, .unset, .unset, .unset, .unset]) rfl ?_
    show Steps p.tables e below (T102.setTop (mkF m 71 #[.val (.long q1), .second, .val (.int p2), .val (.int p3), .val (.long q4), .second, .val (.long q5), .second, .val (.int c1), .val (.long k1), .second, .val (.long qq), .second, .val (.long pp), .second, .val (.long ((qq * (c1.toInt64)) + k1)), .second, .val (.long (own_due q1 ((qq * (c1.toInt64)) + k1) c1 pp)), .second, .val (.long (((own_due q1 ((qq * (c1.toInt64)) + k1) c1 pp) - q1) - (qq * pp))), .second, .unset, .unset, .unset, .unset] [])) _
    exact k
  have ho := own_o q1 k1 qq pp c1 hb_c hb_k hb_q hb_p
  generalize hv_o1 : (((own_due q1 ((qq * (c1.toInt64)) + k1) c1 pp) - q1) - (qq * pp)) = o1
  rw [hv_o1] at ho
  have hf := own_fin o1 k1 pp c1 hb_c hb_k hb_p ho
  show EndsQ _ _ _ _ _ _ _ (T102.setTop (mkF m 71 #[.val (.long q1), .second, .val (.int p2), .val (.int p3), .val (.long q4), .second, .val (.long q5), .second, .val (.int c1), .val (.long k1), .second, .val (.long qq), .second, .val (.long pp), .second, .val (.long ((qq * (c1.toInt64)) + k1)), .second, .val (.long (own_due q1 ((qq * (c1.toInt64)) + k1) c1 pp)), .second, .val (.long o1), .second, .unset, .unset, .unset, .unset] []))
  refine EndsQ.go (b := T102.setTop (mkF m 128 #[.val (.long q1), .second, .val (.int p2), .val (.int p3), .val (.long q4), .second, .val (.long q5), .second, .val (.int c1), .val (.long k1), .second, .val (.long qq), .second, .val (.long pp), .second, .val (.long ((qq * (c1.toInt64)) + k1)), .second, .val (.long (own_due q1 ((qq * (c1.toInt64)) + k1) c1 pp)), .second, .val (.long o1), .second, .val (.long (k1 * pp)), .second, .val (.long (o1 * (c1.toInt64))), .second] [(.int (1 : Int32))])) (fun t k => ?_) ?_
  · show Steps p.tables e below (T102.setTop (mkF m 71 #[.val (.long q1), .second, .val (.int p2), .val (.int p3), .val (.long q4), .second, .val (.long q5), .second, .val (.int c1), .val (.long k1), .second, .val (.long qq), .second, .val (.long pp), .second, .val (.long ((qq * (c1.toInt64)) + k1)), .second, .val (.long (own_due q1 ((qq * (c1.toInt64)) + k1) c1 pp)), .second, .val (.long o1), .second, .unset, .unset, .unset, .unset] [])) _
    refine XS.lload X102.here hx rfl (hb hby at_71) rfl ?_
    show Steps p.tables e below (T102.setTop (mkF m 73 #[.val (.long q1), .second, .val (.int p2), .val (.int p3), .val (.long q4), .second, .val (.long q5), .second, .val (.int c1), .val (.long k1), .second, .val (.long qq), .second, .val (.long pp), .second, .val (.long ((qq * (c1.toInt64)) + k1)), .second, .val (.long (own_due q1 ((qq * (c1.toInt64)) + k1) c1 pp)), .second, .val (.long o1), .second, .unset, .unset, .unset, .unset] [(.long o1)])) _
    refine XS.lconst X102.here hx rfl (hb hby at_73) ?_
    show Steps p.tables e below (T102.setTop (mkF m 74 #[.val (.long q1), .second, .val (.int p2), .val (.int p3), .val (.long q4), .second, .val (.long q5), .second, .val (.int c1), .val (.long k1), .second, .val (.long qq), .second, .val (.long pp), .second, .val (.long ((qq * (c1.toInt64)) + k1)), .second, .val (.long (own_due q1 ((qq * (c1.toInt64)) + k1) c1 pp)), .second, .val (.long o1), .second, .unset, .unset, .unset, .unset] [(.long (0 : Int64)), (.long o1)])) _
    refine XS.lcmp X102.here hx rfl (hb hby at_74) rfl ?_
    show Steps p.tables e below (T102.setTop (mkF m 75 #[.val (.long q1), .second, .val (.int p2), .val (.int p3), .val (.long q4), .second, .val (.long q5), .second, .val (.int c1), .val (.long k1), .second, .val (.long qq), .second, .val (.long pp), .second, .val (.long ((qq * (c1.toInt64)) + k1)), .second, .val (.long (own_due q1 ((qq * (c1.toInt64)) + k1) c1 pp)), .second, .val (.long o1), .second, .unset, .unset, .unset, .unset] [(.int (lcmpW o1 (0 : Int64)))])) _
    refine XS.ifNo X102.here hx rfl (hb hby at_75) rfl ((if0 _ _).trans (flt (fun q => hf.1 ((lw_lt o1 (0 : Int64)).mp q))).1) ?_
    show Steps p.tables e below (T102.setTop (mkF m 78 #[.val (.long q1), .second, .val (.int p2), .val (.int p3), .val (.long q4), .second, .val (.long q5), .second, .val (.int c1), .val (.long k1), .second, .val (.long qq), .second, .val (.long pp), .second, .val (.long ((qq * (c1.toInt64)) + k1)), .second, .val (.long (own_due q1 ((qq * (c1.toInt64)) + k1) c1 pp)), .second, .val (.long o1), .second, .unset, .unset, .unset, .unset] [])) _
    refine XS.lload X102.here hx rfl (hb hby at_78) rfl ?_
    show Steps p.tables e below (T102.setTop (mkF m 80 #[.val (.long q1), .second, .val (.int p2), .val (.int p3), .val (.long q4), .second, .val (.long q5), .second, .val (.int c1), .val (.long k1), .second, .val (.long qq), .second, .val (.long pp), .second, .val (.long ((qq * (c1.toInt64)) + k1)), .second, .val (.long (own_due q1 ((qq * (c1.toInt64)) + k1) c1 pp)), .second, .val (.long o1), .second, .unset, .unset, .unset, .unset] [(.long o1)])) _
    refine XS.lload X102.here hx rfl (hb hby at_80) rfl ?_
    show Steps p.tables e below (T102.setTop (mkF m 82 #[.val (.long q1), .second, .val (.int p2), .val (.int p3), .val (.long q4), .second, .val (.long q5), .second, .val (.int c1), .val (.long k1), .second, .val (.long qq), .second, .val (.long pp), .second, .val (.long ((qq * (c1.toInt64)) + k1)), .second, .val (.long (own_due q1 ((qq * (c1.toInt64)) + k1) c1 pp)), .second, .val (.long o1), .second, .unset, .unset, .unset, .unset] [(.long pp), (.long o1)])) _
    refine XS.lcmp X102.here hx rfl (hb hby at_82) rfl ?_
    show Steps p.tables e below (T102.setTop (mkF m 83 #[.val (.long q1), .second, .val (.int p2), .val (.int p3), .val (.long q4), .second, .val (.long q5), .second, .val (.int c1), .val (.long k1), .second, .val (.long qq), .second, .val (.long pp), .second, .val (.long ((qq * (c1.toInt64)) + k1)), .second, .val (.long (own_due q1 ((qq * (c1.toInt64)) + k1) c1 pp)), .second, .val (.long o1), .second, .unset, .unset, .unset, .unset] [(.int (lcmpW o1 pp))])) _
    refine XS.ifYes X102.here hx rfl (pc0 := 83) (pc' := 88) rfl (hb hby at_83) rfl ((if0 _ _).trans (flt (fun q => hf.2.1 ((lw_gt o1 pp).mp q))).2.2.2) (by decide) (by decide) ?_
    show Steps p.tables e below (T102.setTop (mkF m 88 #[.val (.long q1), .second, .val (.int p2), .val (.int p3), .val (.long q4), .second, .val (.long q5), .second, .val (.int c1), .val (.long k1), .second, .val (.long qq), .second, .val (.long pp), .second, .val (.long ((qq * (c1.toInt64)) + k1)), .second, .val (.long (own_due q1 ((qq * (c1.toInt64)) + k1) c1 pp)), .second, .val (.long o1), .second, .unset, .unset, .unset, .unset] [])) _
    refine XS.lload X102.here hx rfl (hb hby at_88) rfl ?_
    show Steps p.tables e below (T102.setTop (mkF m 90 #[.val (.long q1), .second, .val (.int p2), .val (.int p3), .val (.long q4), .second, .val (.long q5), .second, .val (.int c1), .val (.long k1), .second, .val (.long qq), .second, .val (.long pp), .second, .val (.long ((qq * (c1.toInt64)) + k1)), .second, .val (.long (own_due q1 ((qq * (c1.toInt64)) + k1) c1 pp)), .second, .val (.long o1), .second, .unset, .unset, .unset, .unset] [(.long k1)])) _
    refine XS.lload X102.here hx rfl (hb hby at_90) rfl ?_
    show Steps p.tables e below (T102.setTop (mkF m 92 #[.val (.long q1), .second, .val (.int p2), .val (.int p3), .val (.long q4), .second, .val (.long q5), .second, .val (.int c1), .val (.long k1), .second, .val (.long qq), .second, .val (.long pp), .second, .val (.long ((qq * (c1.toInt64)) + k1)), .second, .val (.long (own_due q1 ((qq * (c1.toInt64)) + k1) c1 pp)), .second, .val (.long o1), .second, .unset, .unset, .unset, .unset] [(.long pp), (.long k1)])) _
    refine XS.lmul X102.here hx rfl (hb hby at_92) rfl ?_
    show Steps p.tables e below (T102.setTop (mkF m 93 #[.val (.long q1), .second, .val (.int p2), .val (.int p3), .val (.long q4), .second, .val (.long q5), .second, .val (.int c1), .val (.long k1), .second, .val (.long qq), .second, .val (.long pp), .second, .val (.long ((qq * (c1.toInt64)) + k1)), .second, .val (.long (own_due q1 ((qq * (c1.toInt64)) + k1) c1 pp)), .second, .val (.long o1), .second, .unset, .unset, .unset, .unset] [(.long (k1 * pp))])) _
    refine XS.lstore X102.here hx rfl (hb hby at_93) rfl (l' := #[.val (.long q1), .second, .val (.int p2), .val (.int p3), .val (.long q4), .second, .val (.long q5), .second, .val (.int c1), .val (.long k1), .second, .val (.long qq), .second, .val (.long pp), .second, .val (.long ((qq * (c1.toInt64)) + k1)), .second, .val (.long (own_due q1 ((qq * (c1.toInt64)) + k1) c1 pp)), .second, .val (.long o1), .second, .val (.long (k1 * pp)), .second, .unset, .unset]) rfl ?_
    show Steps p.tables e below (T102.setTop (mkF m 95 #[.val (.long q1), .second, .val (.int p2), .val (.int p3), .val (.long q4), .second, .val (.long q5), .second, .val (.int c1), .val (.long k1), .second, .val (.long qq), .second, .val (.long pp), .second, .val (.long ((qq * (c1.toInt64)) + k1)), .second, .val (.long (own_due q1 ((qq * (c1.toInt64)) + k1) c1 pp)), .second, .val (.long o1), .second, .val (.long (k1 * pp)), .second, .unset, .unset] [])) _
    refine XS.lload X102.here hx rfl (hb hby at_95) rfl ?_
    show Steps p.tables e below (T102.setTop (mkF m 97 #[.val (.long q1), .second, .val (.int p2), .val (.int p3), .val (.long q4), .second, .val (.long q5), .second, .val (.int c1), .val (.long k1), .second, .val (.long qq), .second, .val (.long pp), .second, .val (.long ((qq * (c1.toInt64)) + k1)), .second, .val (.long (own_due q1 ((qq * (c1.toInt64)) + k1) c1 pp)), .second, .val (.long o1), .second, .val (.long (k1 * pp)), .second, .unset, .unset] [(.long o1)])) _
    refine XS.iload X102.here hx rfl (hb hby at_97) rfl ?_
    show Steps p.tables e below (T102.setTop (mkF m 99 #[.val (.long q1), .second, .val (.int p2), .val (.int p3), .val (.long q4), .second, .val (.long q5), .second, .val (.int c1), .val (.long k1), .second, .val (.long qq), .second, .val (.long pp), .second, .val (.long ((qq * (c1.toInt64)) + k1)), .second, .val (.long (own_due q1 ((qq * (c1.toInt64)) + k1) c1 pp)), .second, .val (.long o1), .second, .val (.long (k1 * pp)), .second, .unset, .unset] [(.int c1), (.long o1)])) _
    refine XS.i2l X102.here hx rfl (hb hby at_99) rfl ?_
    show Steps p.tables e below (T102.setTop (mkF m 100 #[.val (.long q1), .second, .val (.int p2), .val (.int p3), .val (.long q4), .second, .val (.long q5), .second, .val (.int c1), .val (.long k1), .second, .val (.long qq), .second, .val (.long pp), .second, .val (.long ((qq * (c1.toInt64)) + k1)), .second, .val (.long (own_due q1 ((qq * (c1.toInt64)) + k1) c1 pp)), .second, .val (.long o1), .second, .val (.long (k1 * pp)), .second, .unset, .unset] [(.long (c1.toInt64)), (.long o1)])) _
    refine XS.lmul X102.here hx rfl (hb hby at_100) rfl ?_
    show Steps p.tables e below (T102.setTop (mkF m 101 #[.val (.long q1), .second, .val (.int p2), .val (.int p3), .val (.long q4), .second, .val (.long q5), .second, .val (.int c1), .val (.long k1), .second, .val (.long qq), .second, .val (.long pp), .second, .val (.long ((qq * (c1.toInt64)) + k1)), .second, .val (.long (own_due q1 ((qq * (c1.toInt64)) + k1) c1 pp)), .second, .val (.long o1), .second, .val (.long (k1 * pp)), .second, .unset, .unset] [(.long (o1 * (c1.toInt64)))])) _
    refine XS.lstore X102.here hx rfl (hb hby at_101) rfl (l' := #[.val (.long q1), .second, .val (.int p2), .val (.int p3), .val (.long q4), .second, .val (.long q5), .second, .val (.int c1), .val (.long k1), .second, .val (.long qq), .second, .val (.long pp), .second, .val (.long ((qq * (c1.toInt64)) + k1)), .second, .val (.long (own_due q1 ((qq * (c1.toInt64)) + k1) c1 pp)), .second, .val (.long o1), .second, .val (.long (k1 * pp)), .second, .val (.long (o1 * (c1.toInt64))), .second]) rfl ?_
    show Steps p.tables e below (T102.setTop (mkF m 103 #[.val (.long q1), .second, .val (.int p2), .val (.int p3), .val (.long q4), .second, .val (.long q5), .second, .val (.int c1), .val (.long k1), .second, .val (.long qq), .second, .val (.long pp), .second, .val (.long ((qq * (c1.toInt64)) + k1)), .second, .val (.long (own_due q1 ((qq * (c1.toInt64)) + k1) c1 pp)), .second, .val (.long o1), .second, .val (.long (k1 * pp)), .second, .val (.long (o1 * (c1.toInt64))), .second] [])) _
    refine XS.lload X102.here hx rfl (hb hby at_103) rfl ?_
    show Steps p.tables e below (T102.setTop (mkF m 105 #[.val (.long q1), .second, .val (.int p2), .val (.int p3), .val (.long q4), .second, .val (.long q5), .second, .val (.int c1), .val (.long k1), .second, .val (.long qq), .second, .val (.long pp), .second, .val (.long ((qq * (c1.toInt64)) + k1)), .second, .val (.long (own_due q1 ((qq * (c1.toInt64)) + k1) c1 pp)), .second, .val (.long o1), .second, .val (.long (k1 * pp)), .second, .val (.long (o1 * (c1.toInt64))), .second] [(.long (o1 * (c1.toInt64)))])) _
    refine XS.lload X102.here hx rfl (hb hby at_105) rfl ?_
    show Steps p.tables e below (T102.setTop (mkF m 107 #[.val (.long q1), .second, .val (.int p2), .val (.int p3), .val (.long q4), .second, .val (.long q5), .second, .val (.int c1), .val (.long k1), .second, .val (.long qq), .second, .val (.long pp), .second, .val (.long ((qq * (c1.toInt64)) + k1)), .second, .val (.long (own_due q1 ((qq * (c1.toInt64)) + k1) c1 pp)), .second, .val (.long o1), .second, .val (.long (k1 * pp)), .second, .val (.long (o1 * (c1.toInt64))), .second] [(.long (k1 * pp)), (.long (o1 * (c1.toInt64)))])) _
    refine XS.lcmp X102.here hx rfl (hb hby at_107) rfl ?_
    show Steps p.tables e below (T102.setTop (mkF m 108 #[.val (.long q1), .second, .val (.int p2), .val (.int p3), .val (.long q4), .second, .val (.long q5), .second, .val (.int c1), .val (.long k1), .second, .val (.long qq), .second, .val (.long pp), .second, .val (.long ((qq * (c1.toInt64)) + k1)), .second, .val (.long (own_due q1 ((qq * (c1.toInt64)) + k1) c1 pp)), .second, .val (.long o1), .second, .val (.long (k1 * pp)), .second, .val (.long (o1 * (c1.toInt64))), .second] [(.int (lcmpW (o1 * (c1.toInt64)) (k1 * pp)))])) _
    refine XS.ifNo X102.here hx rfl (hb hby at_108) rfl ((if0 _ _).trans (flt (fun q => hf.2.2.1 ((lw_gt (o1 * (c1.toInt64)) (k1 * pp)).mp q))).2.2.1) ?_
    show Steps p.tables e below (T102.setTop (mkF m 111 #[.val (.long q1), .second, .val (.int p2), .val (.int p3), .val (.long q4), .second, .val (.long q5), .second, .val (.int c1), .val (.long k1), .second, .val (.long qq), .second, .val (.long pp), .second, .val (.long ((qq * (c1.toInt64)) + k1)), .second, .val (.long (own_due q1 ((qq * (c1.toInt64)) + k1) c1 pp)), .second, .val (.long o1), .second, .val (.long (k1 * pp)), .second, .val (.long (o1 * (c1.toInt64))), .second] [])) _
    refine XS.lload X102.here hx rfl (hb hby at_111) rfl ?_
    show Steps p.tables e below (T102.setTop (mkF m 113 #[.val (.long q1), .second, .val (.int p2), .val (.int p3), .val (.long q4), .second, .val (.long q5), .second, .val (.int c1), .val (.long k1), .second, .val (.long qq), .second, .val (.long pp), .second, .val (.long ((qq * (c1.toInt64)) + k1)), .second, .val (.long (own_due q1 ((qq * (c1.toInt64)) + k1) c1 pp)), .second, .val (.long o1), .second, .val (.long (k1 * pp)), .second, .val (.long (o1 * (c1.toInt64))), .second] [(.long (k1 * pp))])) _
    refine XS.lload X102.here hx rfl (hb hby at_113) rfl ?_
    show Steps p.tables e below (T102.setTop (mkF m 115 #[.val (.long q1), .second, .val (.int p2), .val (.int p3), .val (.long q4), .second, .val (.long q5), .second, .val (.int c1), .val (.long k1), .second, .val (.long qq), .second, .val (.long pp), .second, .val (.long ((qq * (c1.toInt64)) + k1)), .second, .val (.long (own_due q1 ((qq * (c1.toInt64)) + k1) c1 pp)), .second, .val (.long o1), .second, .val (.long (k1 * pp)), .second, .val (.long (o1 * (c1.toInt64))), .second] [(.long (o1 * (c1.toInt64))), (.long (k1 * pp))])) _
    refine XS.lsub X102.here hx rfl (hb hby at_115) rfl ?_
    show Steps p.tables e below (T102.setTop (mkF m 116 #[.val (.long q1), .second, .val (.int p2), .val (.int p3), .val (.long q4), .second, .val (.long q5), .second, .val (.int c1), .val (.long k1), .second, .val (.long qq), .second, .val (.long pp), .second, .val (.long ((qq * (c1.toInt64)) + k1)), .second, .val (.long (own_due q1 ((qq * (c1.toInt64)) + k1) c1 pp)), .second, .val (.long o1), .second, .val (.long (k1 * pp)), .second, .val (.long (o1 * (c1.toInt64))), .second] [(.long ((k1 * pp) - (o1 * (c1.toInt64))))])) _
    refine XS.iload X102.here hx rfl (hb hby at_116) rfl ?_
    show Steps p.tables e below (T102.setTop (mkF m 118 #[.val (.long q1), .second, .val (.int p2), .val (.int p3), .val (.long q4), .second, .val (.long q5), .second, .val (.int c1), .val (.long k1), .second, .val (.long qq), .second, .val (.long pp), .second, .val (.long ((qq * (c1.toInt64)) + k1)), .second, .val (.long (own_due q1 ((qq * (c1.toInt64)) + k1) c1 pp)), .second, .val (.long o1), .second, .val (.long (k1 * pp)), .second, .val (.long (o1 * (c1.toInt64))), .second] [(.int c1), (.long ((k1 * pp) - (o1 * (c1.toInt64))))])) _
    refine XS.i2l X102.here hx rfl (hb hby at_118) rfl ?_
    show Steps p.tables e below (T102.setTop (mkF m 119 #[.val (.long q1), .second, .val (.int p2), .val (.int p3), .val (.long q4), .second, .val (.long q5), .second, .val (.int c1), .val (.long k1), .second, .val (.long qq), .second, .val (.long pp), .second, .val (.long ((qq * (c1.toInt64)) + k1)), .second, .val (.long (own_due q1 ((qq * (c1.toInt64)) + k1) c1 pp)), .second, .val (.long o1), .second, .val (.long (k1 * pp)), .second, .val (.long (o1 * (c1.toInt64))), .second] [(.long (c1.toInt64)), (.long ((k1 * pp) - (o1 * (c1.toInt64))))])) _
    refine XS.lcmp X102.here hx rfl (hb hby at_119) rfl ?_
    show Steps p.tables e below (T102.setTop (mkF m 120 #[.val (.long q1), .second, .val (.int p2), .val (.int p3), .val (.long q4), .second, .val (.long q5), .second, .val (.int c1), .val (.long k1), .second, .val (.long qq), .second, .val (.long pp), .second, .val (.long ((qq * (c1.toInt64)) + k1)), .second, .val (.long (own_due q1 ((qq * (c1.toInt64)) + k1) c1 pp)), .second, .val (.long o1), .second, .val (.long (k1 * pp)), .second, .val (.long (o1 * (c1.toInt64))), .second] [(.int (lcmpW ((k1 * pp) - (o1 * (c1.toInt64))) (c1.toInt64)))])) _
    refine XS.ifNo X102.here hx rfl (hb hby at_120) rfl ((if0 _ _).trans (tlt ((lw_lt ((k1 * pp) - (o1 * (c1.toInt64))) (c1.toInt64)).mpr hf.2.2.2)).2.1) ?_
    show Steps p.tables e below (T102.setTop (mkF m 123 #[.val (.long q1), .second, .val (.int p2), .val (.int p3), .val (.long q4), .second, .val (.long q5), .second, .val (.int c1), .val (.long k1), .second, .val (.long qq), .second, .val (.long pp), .second, .val (.long ((qq * (c1.toInt64)) + k1)), .second, .val (.long (own_due q1 ((qq * (c1.toInt64)) + k1) c1 pp)), .second, .val (.long o1), .second, .val (.long (k1 * pp)), .second, .val (.long (o1 * (c1.toInt64))), .second] [])) _
    refine XS.iconst X102.here hx rfl (hb hby at_123) ?_
    show Steps p.tables e below (T102.setTop (mkF m 124 #[.val (.long q1), .second, .val (.int p2), .val (.int p3), .val (.long q4), .second, .val (.long q5), .second, .val (.int c1), .val (.long k1), .second, .val (.long qq), .second, .val (.long pp), .second, .val (.long ((qq * (c1.toInt64)) + k1)), .second, .val (.long (own_due q1 ((qq * (c1.toInt64)) + k1) c1 pp)), .second, .val (.long o1), .second, .val (.long (k1 * pp)), .second, .val (.long (o1 * (c1.toInt64))), .second] [(.int (1 : Int32))])) _
    refine XS.goto X102.here hx rfl (pc0 := 124) (pc' := 128) rfl (hb hby at_124) (by decide) (by decide) ?_
    show Steps p.tables e below (T102.setTop (mkF m 128 #[.val (.long q1), .second, .val (.int p2), .val (.int p3), .val (.long q4), .second, .val (.long q5), .second, .val (.int c1), .val (.long k1), .second, .val (.long qq), .second, .val (.long pp), .second, .val (.long ((qq * (c1.toInt64)) + k1)), .second, .val (.long (own_due q1 ((qq * (c1.toInt64)) + k1) c1 pp)), .second, .val (.long o1), .second, .val (.long (k1 * pp)), .second, .val (.long (o1 * (c1.toInt64))), .second] [(.int (1 : Int32))])) _
    exact k
  refine EndsQ.retN X102 hx Bd.notSynchronized (t := .boolean) Bd.returns (by simp) (hb hby at_128) (by decide) (by decide) ?_
  show Q0 Z q1 p2 p3 q4 q5 h0 n0 (some (.int (nar .boolean (1 : Int32)))) T102.heap _
  rw [eq102]
  exact ⟨rfl, N102⟩
set_option maxRecDepth 65536 in
set_option maxHeartbeats 40000000 in
theorem comes_1 {Post : Tables → Env → Array Value → State → Outcome → State → Prop} (hpost : ∀ tb e args s v u, (limb_1_1.after args s (.returned v) u = true ∧ limb_1_2.after args s (.returned v) u = true ∧ True) → FrameEnd s (.returned v) u (Jvm.fieldLocs frame_1_writes args s ++ Jvm.arrayLocs frame_1_arrays args s ++ Jvm.staticLocs frame_1_statics s) 0 0 → Post tb e args s (.returned v) u) :
    ArmFor flags0 classFile x code maxLocals ret World_1 tables_1 room_1 Calls_1 rest_1 Pre_1 Post := by
  intro l hfl _ _ p e ha hc hk s m args below hf hA hF happ hP
  obtain ⟨hcalls, hrest, hpre⟩ := hP
  obtain ⟨-, -, -, hnamed, -, -, -, hat⟩ := (Spec.applies_iff hf).mp happ
  obtain ⟨hg, hn⟩ := and_e (Cond.before_iff.mp (show (Jvm.Cond.and given_1 narrow_1).before args s = true from hpre))
  obtain ⟨g1a, g1b⟩ := and_e hg
  obtain ⟨g2a, g2b⟩ := and_e g1b
  obtain ⟨g3a, g3b⟩ := and_e g2b
  obtain ⟨g4a, g4b⟩ := and_e g3b
  obtain ⟨g5a, g5b⟩ := and_e g4b
  obtain ⟨w0, w1, w2, w3, w4, rfl⟩ : ∃ w0 w1 w2 w3 w4 : Value, args = #[w0, w1, w2, w3, w4] := by
    have hs : args.size = 5 := by simpa [Cond.value, given_1] using g1a
    obtain ⟨L⟩ := args
    match L, hs with
    | [w0, w1, w2, w3, w4], _ => exact ⟨w0, w1, w2, w3, w4, rfl⟩
  have hw := fun d (hd : d ∈ tables_1) => atoms_spec (ws := Jvm.Cond.code x code maxLocals ret :: tables_1) hat d (List.mem_cons_of_mem _ hd)
  have hfit : Fit s := fun {y c} hc i hi => by
    obtain ⟨ha, rfl⟩ := Array.getElem?_eq_some_iff.mp hc
    have q := List.all_eq_true.mp ((Array.all_eq_true_iff_forall_mem.mp hF) _ (Array.getElem_mem ha)) i (List.mem_range.mpr hi)
    simpa [Array.getElem?_eq_getElem hi] using q
  obtain ⟨i0, ei0⟩ := isL_v g2a
  obtain rfl : w0 = (.long i0) := Option.some.inj ei0
  obtain ⟨i1, ei1⟩ := is_v g3a
  obtain rfl : w1 = (.int i1) := Option.some.inj ei1
  obtain ⟨i2, ei2⟩ := is_v g4a
  obtain rfl : w2 = (.int i2) := Option.some.inj ei2
  obtain ⟨i3, ei3⟩ := isL_v g5a
  obtain rfl : w3 = (.long i3) := Option.some.inj ei3
  obtain ⟨i4, ei4⟩ := isL_v g5b
  obtain rfl : w4 = (.long i4) := Option.some.inj ei4
  obtain ⟨n, o, h1, h2, h3, _, L, rfl, ⟨rfl, N⟩, hq⟩ := rm0 l s _ hw tables_1 i0 i1 i2 i3 i4 s.heap s.heap.size (Nat.le_refl _) p e ha hc hk s m _ below hf ((Spec.applies_iff_loose hf).mp happ).1 ⟨rfl, State.Warmed39.refl s, rfl⟩ trivial
  refine ⟨n, _, h1, h2, h3, hpost _ _ _ _ _ _ ⟨Cond.after_iff.mpr rfl, Cond.after_iff.mpr (eq_i res_at (Term.int_eval (1)) rfl), trivial⟩ ⟨hq.1, hq.2.1, (hq.2.2.sift fun y hy => Or.inr (N y hy)).mono (by decide) (by decide)⟩⟩
theorem main_1_1 : Claimed_1_1 := comes_1 fun _ _ _ _ _ _ h hF => ⟨h.1, hF⟩
theorem main_1_2 : Claimed_1_2 := comes_1 fun _ _ _ _ _ _ h hF => ⟨h.2.1, hF⟩
end Jvm.Pilot.@@N@@
namespace Jvm.Pilot.@@N@@
open Jvm Jvm.ClassFile Sem Op Lib Jvm.Free Jvm.Stand Jvm.Pilot.@@N@@.Jvm.D
/-! MADE BY PROGRAM (witnessworld.py) out of the Statement's table words and the real class files: 11 classes; the members and pool entries that the words name. The judged class is class 1, her method 1. -/
namespace start1
open Jvm.ClassFile
def u (s : String) : CpInfo := .utf8 (stringToUtf16 s)
/-- a pool by its gaps: so many unusable entries, then the entry; so many at the end -/
def gap : Nat → List CpInfo → List CpInfo
  | 0, r => r
  | n + 1, r => .unusable :: gap n r
def poolList (es : List (Nat × CpInfo)) (last : Nat) : List CpInfo := es.foldr (fun e r => gap e.1 (e.2 :: r)) (gap last [])
def pool (es : List (Nat × CpInfo)) (last : Nat) : Array CpInfo := ⟨poolList es last⟩
def fileOf (pool : Array CpInfo) (this : Nat) (attrs : Array Attribute := #[]) (ms : Array MethodInfo := #[]) (fl : Nat := 33) (sup : Nat := 0) (ifs : Array Nat := #[]) (fds : Array FieldInfo := #[]) : ClassFile where
  minorVersion := 0
  majorVersion := 65
  constantPool := pool
  accessFlags := fl
  thisClass := this
  superClass := sup
  interfaces := ifs
  fields := fds
  methods := ms
  attributes := attrs
def plain (name : String) (sup : Option ClassId) : Class where
  name := name
  kind := .ordinary
  loader := none
  accessFlags := 33
  super := sup
  interfaces := #[]
  cf := none
  fields := #[]
  methods := #[]
  instanceTypes := #[]
  staticTypes := #[]
  resolved := #[]
  callSites := []
  init := .initialized
  statics := none
  mirror := none

def pool0 : Array CpInfo := pool [(5, u "<init>"), (0, u "()V"), (1, .class_ 10), (1, u "java/lang/Object")] 113

def k0m0 : Method := { name := "<init>", desc := "()V", sig := { parameters := [], returnType := none }, accessFlags := 1, code := none }
/-- java/lang/Object -/
def k0 : Class := { plain "java/lang/Object" none with
  accessFlags := 33
  interfaces := #[]
  cf := some (fileOf pool0 8 #[] #[{ accessFlags := 1, nameIndex := 5, descriptorIndex := 6, attributes := #[] }] 33 0 #[] #[])
  fields := #[]
  methods := #[k0m0]
  instanceTypes := #[]
  staticTypes := #[]
  resolved := Array.replicate 124 none
  statics := none }

def pool1 : Array CpInfo := pool [(2, .class_ 4), (1, u "java/lang/Object"), (0, u "<init>"), (0, u "()V"), (0, .integer 1048575), (0, .methodref 9 10), (0, .class_ 11), (0, .nameAndType 12 13), (0, u "java/lang/Math"), (0, u "max"), (0, u "(II)I"), (0, .integer 2147483647), (0, .long 1048575), (1, .long 4398046511103), (1, .methodref 20 21), (0, .class_ 22), (0, .nameAndType 23 24), (0, u "moorholt/cli/Load"), (0, u "due"), (0, u "(JJIJ)J"), (0, .class_ 26), (0, u "moorholt/cli/LoadDuePinLaw"), (2, u "law"), (0, u "(JIIJJ)Z")] 3

def k1m0 : Method := { name := "<init>", desc := "()V", sig := { parameters := [], returnType := none }, accessFlags := 1, code := none }
def k1c1 : Code := { maxStack := 7, maxLocals := 25, code := code, exceptionTable := #[], attributes := #[] }
def k1m1 : Method := { name := "law", desc := "(JIIJJ)Z", sig := { parameters := [.long, .int, .int, .long, .long], returnType := some .boolean }, accessFlags := 9, code := some k1c1 }
/-- moorholt/cli/LoadDuePinLaw -/
def k1 : Class := { plain "moorholt/cli/LoadDuePinLaw" (some 0) with
  accessFlags := 49
  interfaces := #[]
  cf := some (fileOf pool1 25 #[] #[{ accessFlags := 1, nameIndex := 5, descriptorIndex := 6, attributes := #[] }, { accessFlags := 9, nameIndex := 29, descriptorIndex := 30, attributes := #[] }] 49 2 #[] #[])
  fields := #[]
  methods := #[k1m0, k1m1]
  instanceTypes := #[]
  staticTypes := #[]
  resolved := Array.replicate 34 none
  statics := none }

def pool2 : Array CpInfo := pool [(1, .class_ 2), (0, u "java/lang/Math"), (1, .class_ 6), (1, u "java/lang/Object"), (0, u "<init>"), (0, u "()V"), (89, .class_ 100), (1, u "java/lang/Math$RandomNumberGeneratorHolder"), (71, u "negativeZeroFloatBits"), (0, u "J"), (2, u "negativeZeroDoubleBits"), (21, u "max"), (46, u "$assertionsDisabled"), (0, u "Z"), (88, u "(II)I"), (2, u "twoToTheDoubleScaleDown"), (0, u "D"), (4, u "twoToTheDoubleScaleUp"), (9, u "E"), (3, u "PI"), (2, u "TAU"), (2, u "DEGREES_TO_RADIANS"), (0, u "RADIANS_TO_DEGREES")] 94

def k2m0 : Method := { name := "<init>", desc := "()V", sig := { parameters := [], returnType := none }, accessFlags := 2, code := none }
def k2c1 : Code := { maxStack := 2, maxLocals := 2, code := jdk_29_method_65_code, exceptionTable := #[], attributes := #[] }
def k2m1 : Method := { name := "max", desc := "(II)I", sig := { parameters := [.int, .int], returnType := some .int }, accessFlags := 9, code := some k2c1 }
/-- java/lang/Math -/
def k2 : Class := { plain "java/lang/Math" (some 0) with
  accessFlags := 49
  interfaces := #[]
  cf := some (fileOf pool2 1 #[.nestMembers #[98]] #[{ accessFlags := 2, nameIndex := 7, descriptorIndex := 8, attributes := #[] }, { accessFlags := 9, nameIndex := 198, descriptorIndex := 335, attributes := #[] }] 49 4 #[] #[{ accessFlags := 25, nameIndex := 354, descriptorIndex := 339, attributes := #[] }, { accessFlags := 25, nameIndex := 358, descriptorIndex := 339, attributes := #[] }, { accessFlags := 25, nameIndex := 361, descriptorIndex := 339, attributes := #[] }, { accessFlags := 26, nameIndex := 364, descriptorIndex := 339, attributes := #[] }, { accessFlags := 26, nameIndex := 365, descriptorIndex := 339, attributes := #[] }, { accessFlags := 26, nameIndex := 172, descriptorIndex := 173, attributes := #[] }, { accessFlags := 26, nameIndex := 176, descriptorIndex := 173, attributes := #[] }, { accessFlags := 8, nameIndex := 344, descriptorIndex := 339, attributes := #[] }, { accessFlags := 8, nameIndex := 338, descriptorIndex := 339, attributes := #[] }, { accessFlags := 4120, nameIndex := 245, descriptorIndex := 246, attributes := #[] }])
  fields := #[{ name := "E", type := .double, accessFlags := 25, slot := 0, constantValue := 0 }, { name := "PI", type := .double, accessFlags := 25, slot := 1, constantValue := 0 }, { name := "TAU", type := .double, accessFlags := 25, slot := 2, constantValue := 0 }, { name := "DEGREES_TO_RADIANS", type := .double, accessFlags := 26, slot := 3, constantValue := 0 }, { name := "RADIANS_TO_DEGREES", type := .double, accessFlags := 26, slot := 4, constantValue := 0 }, { name := "negativeZeroFloatBits", type := .long, accessFlags := 26, slot := 5, constantValue := 0 }, { name := "negativeZeroDoubleBits", type := .long, accessFlags := 26, slot := 6, constantValue := 0 }, { name := "twoToTheDoubleScaleUp", type := .double, accessFlags := 8, slot := 7, constantValue := 0 }, { name := "twoToTheDoubleScaleDown", type := .double, accessFlags := 8, slot := 8, constantValue := 0 }, { name := "$assertionsDisabled", type := .boolean, accessFlags := 4120, slot := 9, constantValue := 0 }]
  methods := #[k2m0, k2m1]
  instanceTypes := #[]
  staticTypes := #[.double, .double, .double, .double, .double, .long, .long, .double, .double, .boolean]
  resolved := Array.replicate 460 none
  statics := none }

def pool3 : Array CpInfo := pool [(1, .class_ 2), (0, u "moorholt/net/Crowd$Listener"), (0, .class_ 4), (0, u "java/lang/Object"), (9, .class_ 15), (0, u "moorholt/net/Crowd")] 2

/-- moorholt/net/Crowd$Listener -/
def k3 : Class := { plain "moorholt/net/Crowd$Listener" (some 0) with
  accessFlags := 1537
  interfaces := #[]
  cf := some (fileOf pool3 1 #[.nestHost 14] #[] 1537 3 #[] #[])
  fields := #[]
  methods := #[]
  instanceTypes := #[]
  staticTypes := #[]
  resolved := Array.replicate 18 none
  statics := none }

def pool4 : Array CpInfo := pool [(2, .class_ 4), (1, u "java/lang/Object"), (3, .class_ 10), (1, u "moorholt/cli/Load"), (0, u "server"), (0, u "Ljava/net/InetSocketAddress;"), (2, u "clients"), (0, u "I"), (2, u "zones"), (8, u "periodNanos"), (0, u "J"), (2, u "lengthNanos"), (2, u "payloadBytes"), (7, u "epoch"), (7, u "tally"), (0, u "Lmoorholt/cli/Tally;"), (0, .class_ 54), (0, u "moorholt/cli/Load$State"), (2, u "states"), (0, u "[Lmoorholt/cli/Load$State;"), (32, u "[Ljava/lang/String;"), (2, u "rooms"), (4, u "problems"), (7, u "crowd"), (0, u "Lmoorholt/net/Crowd;"), (13, u "joined"), (15, u "failed"), (22, u "dropped"), (2, u "firstDrop"), (0, u "Ljava/lang/String;"), (5, u "unexpected"), (2, u "firstUnexpected"), (59, u "leaving"), (4, u "JOIN_TIMEOUT"), (0, u "Ljava/time/Duration;"), (12, u "WARM_UP"), (8, u "due"), (0, u "(JJIJ)J"), (2, u "lastHeard"), (10, u "QUIET"), (9, u "LOGOUT_TIMEOUT"), (66, .class_ 355), (0, u "moorholt/net/Crowd$Listener"), (0, u "STAMP_DIGITS")] 75

def k4c0 : Code := { maxStack := 6, maxLocals := 7, code := prog_17_method_9_code, exceptionTable := #[], attributes := #[] }
def k4m0 : Method := { name := "due", desc := "(JJIJ)J", sig := { parameters := [.long, .long, .int, .long], returnType := some .long }, accessFlags := 8, code := some k4c0 }
/-- moorholt/cli/Load -/
def k4 : Class := { plain "moorholt/cli/Load" (some 0) with
  accessFlags := 48
  interfaces := #[3]
  cf := some (fileOf pool4 8 #[.nestMembers #[53]] #[{ accessFlags := 8, nameIndex := 262, descriptorIndex := 263, attributes := #[] }] 48 2 #[354] #[{ accessFlags := 24, nameIndex := 239, descriptorIndex := 240, attributes := #[] }, { accessFlags := 24, nameIndex := 253, descriptorIndex := 240, attributes := #[] }, { accessFlags := 24, nameIndex := 356, descriptorIndex := 16, attributes := #[] }, { accessFlags := 26, nameIndex := 277, descriptorIndex := 240, attributes := #[] }, { accessFlags := 26, nameIndex := 287, descriptorIndex := 240, attributes := #[] }, { accessFlags := 18, nameIndex := 11, descriptorIndex := 12, attributes := #[] }, { accessFlags := 18, nameIndex := 15, descriptorIndex := 16, attributes := #[] }, { accessFlags := 18, nameIndex := 19, descriptorIndex := 16, attributes := #[] }, { accessFlags := 18, nameIndex := 28, descriptorIndex := 29, attributes := #[] }, { accessFlags := 18, nameIndex := 32, descriptorIndex := 29, attributes := #[] }, { accessFlags := 18, nameIndex := 35, descriptorIndex := 16, attributes := #[] }, { accessFlags := 18, nameIndex := 43, descriptorIndex := 29, attributes := #[] }, { accessFlags := 18, nameIndex := 51, descriptorIndex := 52, attributes := #[] }, { accessFlags := 18, nameIndex := 57, descriptorIndex := 58, attributes := #[] }, { accessFlags := 18, nameIndex := 94, descriptorIndex := 91, attributes := #[] }, { accessFlags := 18, nameIndex := 99, descriptorIndex := 91, attributes := #[] }, { accessFlags := 2, nameIndex := 107, descriptorIndex := 108, attributes := #[] }, { accessFlags := 2, nameIndex := 122, descriptorIndex := 16, attributes := #[] }, { accessFlags := 2, nameIndex := 138, descriptorIndex := 16, attributes := #[] }, { accessFlags := 2, nameIndex := 234, descriptorIndex := 16, attributes := #[] }, { accessFlags := 2, nameIndex := 266, descriptorIndex := 29, attributes := #[] }, { accessFlags := 2, nameIndex := 161, descriptorIndex := 16, attributes := #[] }, { accessFlags := 2, nameIndex := 164, descriptorIndex := 165, attributes := #[] }, { accessFlags := 2, nameIndex := 171, descriptorIndex := 29, attributes := #[] }, { accessFlags := 2, nameIndex := 174, descriptorIndex := 165, attributes := #[] }])
  fields := #[{ name := "JOIN_TIMEOUT", type := (.object "java/time/Duration"), accessFlags := 24, slot := 0, constantValue := 0 }, { name := "WARM_UP", type := (.object "java/time/Duration"), accessFlags := 24, slot := 1, constantValue := 0 }, { name := "STAMP_DIGITS", type := .int, accessFlags := 24, slot := 2, constantValue := 0 }, { name := "QUIET", type := (.object "java/time/Duration"), accessFlags := 26, slot := 3, constantValue := 0 }, { name := "LOGOUT_TIMEOUT", type := (.object "java/time/Duration"), accessFlags := 26, slot := 4, constantValue := 0 }, { name := "server", type := (.object "java/net/InetSocketAddress"), accessFlags := 18, slot := 0, constantValue := 0 }, { name := "clients", type := .int, accessFlags := 18, slot := 1, constantValue := 0 }, { name := "zones", type := .int, accessFlags := 18, slot := 2, constantValue := 0 }, { name := "periodNanos", type := .long, accessFlags := 18, slot := 3, constantValue := 0 }, { name := "lengthNanos", type := .long, accessFlags := 18, slot := 4, constantValue := 0 }, { name := "payloadBytes", type := .int, accessFlags := 18, slot := 5, constantValue := 0 }, { name := "epoch", type := .long, accessFlags := 18, slot := 6, constantValue := 0 }, { name := "tally", type := (.object "moorholt/cli/Tally"), accessFlags := 18, slot := 7, constantValue := 0 }, { name := "states", type := (.array (.object "moorholt/cli/Load$State")), accessFlags := 18, slot := 8, constantValue := 0 }, { name := "rooms", type := (.array (.object "java/lang/String")), accessFlags := 18, slot := 9, constantValue := 0 }, { name := "problems", type := (.array (.object "java/lang/String")), accessFlags := 18, slot := 10, constantValue := 0 }, { name := "crowd", type := (.object "moorholt/net/Crowd"), accessFlags := 2, slot := 11, constantValue := 0 }, { name := "joined", type := .int, accessFlags := 2, slot := 12, constantValue := 0 }, { name := "failed", type := .int, accessFlags := 2, slot := 13, constantValue := 0 }, { name := "leaving", type := .int, accessFlags := 2, slot := 14, constantValue := 0 }, { name := "lastHeard", type := .long, accessFlags := 2, slot := 15, constantValue := 0 }, { name := "dropped", type := .int, accessFlags := 2, slot := 16, constantValue := 0 }, { name := "firstDrop", type := (.object "java/lang/String"), accessFlags := 2, slot := 17, constantValue := 0 }, { name := "unexpected", type := .long, accessFlags := 2, slot := 18, constantValue := 0 }, { name := "firstUnexpected", type := (.object "java/lang/String"), accessFlags := 2, slot := 19, constantValue := 0 }]
  methods := #[k4m0]
  instanceTypes := #[(.object "java/net/InetSocketAddress"), .int, .int, .long, .long, .int, .long, (.object "moorholt/cli/Tally"), (.array (.object "moorholt/cli/Load$State")), (.array (.object "java/lang/String")), (.array (.object "java/lang/String")), (.object "moorholt/net/Crowd"), .int, .int, .int, .long, .int, (.object "java/lang/String"), .long, (.object "java/lang/String")]
  staticTypes := #[(.object "java/time/Duration"), (.object "java/time/Duration"), .int, (.object "java/time/Duration"), (.object "java/time/Duration")]
  resolved := Array.replicate 432 none
  statics := none }

def pool5 : Array CpInfo := pool [(1, u "java/lang/Cloneable"), (0, .class_ 1), (0, u "java/lang/Object"), (0, .class_ 3)] 3

/-- java/lang/Cloneable -/
def k5 : Class := { plain "java/lang/Cloneable" (some 0) with
  accessFlags := 1537
  interfaces := #[]
  cf := some (fileOf pool5 2 #[] #[] 1537 4 #[] #[])
  fields := #[]
  methods := #[]
  instanceTypes := #[]
  staticTypes := #[]
  resolved := Array.replicate 8 none
  statics := none }

def pool6 : Array CpInfo := pool [(1, u "java/io/Serializable"), (0, .class_ 1), (0, u "java/lang/Object"), (0, .class_ 3)] 3

/-- java/io/Serializable -/
def k6 : Class := { plain "java/io/Serializable" (some 0) with
  accessFlags := 1537
  interfaces := #[]
  cf := some (fileOf pool6 2 #[] #[] 1537 4 #[] #[])
  fields := #[]
  methods := #[]
  instanceTypes := #[]
  staticTypes := #[]
  resolved := Array.replicate 8 none
  statics := none }

/-- the primitive byte -/
def k7 : Class := { plain "byte" none with kind := .primitive 'B', accessFlags := 0x411 }
/-- [B -/
def k8 : Class := { plain "[B" (some 0) with kind := .array 7 .byte, interfaces := #[5, 6], accessFlags := 1041 }

/-- the primitive int -/
def k9 : Class := { plain "int" none with kind := .primitive 'I', accessFlags := 0x411 }
/-- [I -/
def k10 : Class := { plain "[I" (some 0) with kind := .array 9 .int, interfaces := #[5, 6], accessFlags := 1041 }

def heap : Heap := #[]
def classes : Array Class := #[k0, k1, k2, k3, k4, k5, k6, k7, k8, k9, k10]
def interned : List (Array UInt16 × Addr) := []
def slotsUsed : Nat := 0
def theMethod : MethodId := ⟨1, 1⟩
def args0 : Array Value := #[.long 5, .int 300, .int 7, .long 9, .long 11]
def aboutOver (below : List Frame) : State where
  vm := { classes := classes, interned := interned.toArray }
  heap := heap
  slotsUsed := slotsUsed
  threads := #[{ frames := .invoking theMethod args0 :: below }]
def below0 : List Frame := [.native { method := ⟨0, 0⟩, args := #[] }]
def about1 : State := aboutOver below0
def p0 : Program := .bare "" "" ""
def e0 : Env := launch0.env 0 0 0
theorem w_frames : about1.frames = Frame.invoking theMethod args0 :: below0 := rfl
set_option maxRecDepth 65536 in
theorem w_args : argsFit about1.vm theMethod args0 = true := by decide +kernel
set_option maxRecDepth 65536 in
theorem w_heap : heapFits about1 = true := by decide +kernel
set_option maxRecDepth 65536 in
theorem w_runnable : about1.curStatus? = some .runnable := by decide +kernel
set_option maxRecDepth 65536 in
theorem w_alone : about1.alone = true := by decide +kernel
set_option maxRecDepth 65536 in
theorem w_named : about1.methodNamed? x = some theMethod := by decide +kernel
set_option maxRecDepth 65536 in
theorem w_hears : about1.hears theMethod below0 = true := by decide +kernel
set_option maxRecDepth 65536 in
theorem w_ripe : about1.ripe theMethod args0 below0 = true := by decide +kernel
theorem w_running : about1.status = .running := rfl
set_option maxRecDepth 65536 in
theorem w_room : about1.hasRoom e0.platform room_1 = true :=
  launch0.hasRoom_least _ room_1 (by decide +kernel) (by decide +kernel) (by decide +kernel) (by decide +kernel) (by decide +kernel) (by decide +kernel)
theorem allAtoms_all (ts : List Jvm.Cond) (a : Array Jvm.Value) (st : Jvm.State) : (allAtoms ts).before a st = ts.all (fun c => c.before a st) := by
  induction ts with
  | nil => rfl
  | cons c t ih =>
    show (Jvm.Cond.and c (allAtoms t)).before a st = _
    rw [Jvm.Cond.before_and, ih, List.all_cons]
def words1 : List Jvm.Cond := Jvm.Cond.code x code maxLocals ret :: tables_1
/-- a 'code' word, met by the world's own term for the bytes: nothing is compared byte by byte -/
theorem code_word {y : MethodName} {bytes : ByteArray} {mx : Nat} {rt : Option FieldType} {a : Array Value} {s : State} {m : MethodId} {meth : Method} {c : Code} (h1 : s.methodNamed? y = some m) (h2 : s.vm.method? m = some meth) (h3 : meth.code = some c) (h4 : c.code = bytes)
    (h5 : (c.maxLocals == mx && c.exceptionTable.isEmpty && decide (c.maxStack ≤ mostOperands) && decide (meth.sig.returnType = rt) && !meth.locks && decide (parseMethodDescriptor y.desc = some meth.sig)) = true) : (Jvm.Cond.code y bytes mx rt).before a s = true := by
  simp only [Bool.and_eq_true, beq_iff_eq, Bool.not_eq_true', decide_eq_true_eq] at h5
  obtain ⟨⟨⟨⟨⟨g1, g2⟩, g3⟩, g4⟩, g5⟩, g6⟩ := h5
  simp [Cond.before, Cond.holds, Cond.value, h1, h2, h3, h4, g1, g2, g3, g4, g5, g6]
def isCode : Jvm.Cond → Bool
  | .code _ _ _ _ => true
  | _ => false
theorem all_split {L : List Jvm.Cond} {P : Jvm.Cond → Bool} (h1 : L.all (fun c => isCode c || P c) = true) (h2 : ∀ c ∈ L.filter isCode, P c = true) : L.all P = true := by
  refine List.all_eq_true.mpr fun c hc => ?_
  have h := List.all_eq_true.mp h1 c hc
  rcases Bool.eq_false_or_eq_true (isCode c) with hi | hi
  · exact h2 c (List.mem_filter.mpr ⟨hc, hi⟩)
  · simpa [hi] using h
set_option maxRecDepth 65536 in
theorem w_c0 : (Jvm.Cond.code x code maxLocals ret).before args0 about1 = true := code_word (m := ⟨1, 1⟩) (meth := k1m1) (c := k1c1) (by decide +kernel) rfl rfl rfl (by decide +kernel)
set_option maxRecDepth 65536 in
theorem w_c1 : (Jvm.Cond.code ({ cls := "java/lang/Math", name := "max", desc := "(II)I" } : Jvm.MethodName) jdk_29_method_65_code (2 : Nat) (Option.some Jvm.ClassFile.FieldType.int)).before args0 about1 = true := code_word (m := ⟨2, 1⟩) (meth := k2m1) (c := k2c1) (by decide +kernel) rfl rfl rfl (by decide +kernel)
set_option maxRecDepth 65536 in
theorem w_c2 : (Jvm.Cond.code ({ cls := "moorholt/cli/Load", name := "due", desc := "(JJIJ)J" } : Jvm.MethodName) prog_17_method_9_code (7 : Nat) (Option.some Jvm.ClassFile.FieldType.long)).before args0 about1 = true := code_word (m := ⟨4, 0⟩) (meth := k4m0) (c := k4c0) (by decide +kernel) rfl rfl rfl (by decide +kernel)
def codes1 : List Jvm.Cond := [Jvm.Cond.code x code maxLocals ret, Jvm.Cond.code ({ cls := "java/lang/Math", name := "max", desc := "(II)I" } : Jvm.MethodName) jdk_29_method_65_code (2 : Nat) (Option.some Jvm.ClassFile.FieldType.int), Jvm.Cond.code ({ cls := "moorholt/cli/Load", name := "due", desc := "(JJIJ)J" } : Jvm.MethodName) prog_17_method_9_code (7 : Nat) (Option.some Jvm.ClassFile.FieldType.long)]
set_option maxRecDepth 65536 in
theorem codes_eq : words1.filter isCode = codes1 := rfl
theorem w_codes : ∀ c ∈ words1.filter isCode, c.before args0 about1 = true := by
  rw [codes_eq]
  intro c hc
  simp only [codes1, List.mem_cons, List.not_mem_nil, or_false] at hc
  rcases hc with rfl | rfl | rfl
  · exact w_c0
  · exact w_c1
  · exact w_c2
set_option maxRecDepth 65536 in
theorem w_t1 : words1.all (fun c => isCode c || c.before args0 about1) = true := by decide +kernel
theorem w_tables : (allAtoms (Jvm.Cond.code x code maxLocals ret :: tables_1)).before args0 about1 = true := by
  rw [allAtoms_all]
  show words1.all (fun c => c.before args0 about1) = true
  refine all_split ?_ w_codes
  rw [w_t1]
set_option maxRecDepth 65536 in
theorem w_case : (Jvm.Cond.and given_1 narrow_1).before args0 about1 = true := by decide +kernel
theorem w_applies : (headSpec (Jvm.Cond.code x code maxLocals ret :: tables_1) room_1).applies x e0.platform about1 = true :=
  (Spec.applies_iff w_frames).mpr ⟨w_running, w_runnable, w_alone, w_named, w_hears, w_ripe, w_room, w_tables⟩
theorem atStart : AtStart classFile x code maxLocals ret World_1 tables_1 room_1 Calls_1 rest_1 Pre_1 launch0 p0 e0 about1 theMethod args0 below0 :=
  ⟨lists_1, trivial, launch0.admits_env _ _ _, launch0.least_env, fairChoices_fair.cas, fairChoices_fair.clock, w_frames, w_args, w_heap, w_applies, trivial, trivial, w_case⟩
end start1
theorem witness_1 : WitnessClaimed_1 := ⟨start1.p0, start1.e0, start1.about1, start1.theMethod, start1.args0, start1.below0, start1.atStart⟩
end Jvm.Pilot.@@N@@
