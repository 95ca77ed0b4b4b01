import JvmDerived
import JvmDerived.Pilot.@@N@@Statement
import JvmDerived.Pilot.@@N@@Code
set_option linter.unusedVariables false
set_option linter.unusedSimpArgs false
namespace Jvm.RoadKit
open Sem ClassFile Op Lib Jvm.Stand Jvm.Free Jvm.LawKit
section OwnKit
variable {p : Program} {l : Launch} {e : Env} {R : Room} {s : State} {m : MethodId} {args : Array Value} {below : List Frame} {meth : Method} {c : Code} {T : State} {locs : List Loc} {cells slots : Nat}
def EndsQ (tb : Tables) (e : Env) (below : List Frame) (s : State) (Qv : Option Value → Heap → List Loc → Prop) (rc rs : Nat) (st : State) : Prop :=
  ∃ s₂ o, Steps tb e below st s₂ ∧ s₂.status = .running ∧ Ended s₂ below o ∧ ∃ v L, o = .returned v ∧ Qv v s₂.heap L ∧ FrameEnd s o s₂ L rc rs
theorem EndsQ.go {tb : Tables} {Qv : Option Value → Heap → List Loc → Prop} {rc rs : Nat} {a b : State} (k : ∀ t, Steps tb e below b t → Steps tb e below a t) (h : EndsQ tb e below s Qv rc rs b) : EndsQ tb e below s Qv rc rs a := by
  obtain ⟨s₂, o, h1, h2⟩ := h
  exact ⟨s₂, o, k _ h1, h2⟩
theorem EndsQ.out (X : Stand p l e R s m args below meth c T locs cells slots) (hlk : meth.locks = false) {Qv : Option Value → Heap → List Loc → Prop} {rc rs : Nat} {v : Option Value} {st : State} (hv : meth.sig.returnType = none → v = none)
    (hs : ∀ fs, (∀ (f : JFrame) (acts : List Action), f.method = m → f.locked = none → f.entered = [] → (doReturn e (T.setTop f) acts v).1 = T.setFrames fs) → Steps p.tables e below st (T.setFrames fs))
    (h1 : cells ≤ rc) (h2 : slots ≤ rs) (hq : Qv v T.heap locs) : EndsQ p.tables e below s Qv rc rs st := by
  obtain ⟨fs, hr, hrun, hended, hW, hsame⟩ := X.leave (v := v) hv hlk
  exact ⟨_, _, hs fs hr, hrun, hended, _, _, rfl, hq, ⟨_, rfl⟩, hW, hsame.mono h1 h2⟩
theorem EndsQ.retI (X : Stand p l e R s m args below meth c T locs cells slots) (hx : p.tables.exec = Jvm.exec) (hlk : meth.locks = false) {Qv : Option Value → Heap → List Loc → Prop} {rc rs pc : Nat} {Ls : Array Slot} {z : Int32} {rest : List Value} (hret : meth.sig.returnType = some .int) (hd : decode c.code pc = .ok (.ireturn, 1))
    (h1 : cells ≤ rc) (h2 : slots ≤ rs) (hq : Qv (some (.int z)) T.heap locs) : EndsQ p.tables e below s Qv rc rs (T.setTop (mkF m pc Ls (.int z :: rest))) := by
  refine EndsQ.out X hlk (v := some (.int z)) (fun h => by rw [hret] at h; cases h) (fun fs hr => ?_) h1 h2 hq
  exact retOut X hx hret rfl (Or.inl ⟨rfl, Or.inl rfl, z, rfl⟩) hd hr
theorem EndsQ.retJ (X : Stand p l e R s m args below meth c T locs cells slots) (hx : p.tables.exec = Jvm.exec) (hlk : meth.locks = false) {Qv : Option Value → Heap → List Loc → Prop} {rc rs pc : Nat} {Ls : Array Slot} {z : Int64} {rest : List Value} (hret : meth.sig.returnType = some .long) (hd : decode c.code pc = .ok (.lreturn, 1))
    (h1 : cells ≤ rc) (h2 : slots ≤ rs) (hq : Qv (some (.long z)) T.heap locs) : EndsQ p.tables e below s Qv rc rs (T.setTop (mkF m pc Ls (.long z :: rest))) := by
  refine EndsQ.out X hlk (v := some (.long z)) (fun h => by rw [hret] at h; cases h) (fun fs hr => ?_) h1 h2 hq
  exact retOut X hx hret rfl (Or.inr (Or.inl ⟨rfl, rfl, z, rfl⟩)) hd hr
theorem EndsQ.retA (X : Stand p l e R s m args below meth c T locs cells slots) (hx : p.tables.exec = Jvm.exec) (hlk : meth.locks = false) {Qv : Option Value → Heap → List Loc → Prop} {rc rs pc : Nat} {Ls : Array Slot} {w : Value} {t : FieldType} {rest : List Value} (hret : meth.sig.returnType = some t) (ht : t.isReference = true) (hw : w.isRef = true) (hn : narrow t w = w) (hd : decode c.code pc = .ok (.areturn, 1))
    (h1 : cells ≤ rc) (h2 : slots ≤ rs) (hq : Qv (some w) T.heap locs) : EndsQ p.tables e below s Qv rc rs (T.setTop (mkF m pc Ls (w :: rest))) := by
  refine EndsQ.out X hlk (v := some w) (fun h => by rw [hret] at h; cases h) (fun fs hr => ?_) h1 h2 hq
  exact retOut X hx hret hn (Or.inr (Or.inr (Or.inr (Or.inr ⟨rfl, ht, hw⟩)))) hd hr
theorem EndsQ.retN (X : Stand p l e R s m args below meth c T locs cells slots) (hx : p.tables.exec = Jvm.exec) (hlk : meth.locks = false) {Qv : Option Value → Heap → List Loc → Prop} {rc rs pc : Nat} {Ls : Array Slot} {z : Int32} {t : FieldType} {rest : List Value} (hret : meth.sig.returnType = some t) (ht : t = .boolean ∨ t = .byte ∨ t = .char ∨ t = .short) (hd : decode c.code pc = .ok (.ireturn, 1))
    (h1 : cells ≤ rc) (h2 : slots ≤ rs) (hq : Qv (some (.int (nar t z))) T.heap locs) : EndsQ p.tables e below s Qv rc rs (T.setTop (mkF m pc Ls (.int z :: rest))) := by
  refine EndsQ.out X hlk (v := some (.int (nar t z))) (fun h => by rw [hret] at h; cases h) (fun fs hr => ?_) h1 h2 hq
  exact Jvm.RoadKit.retN X hx hret ht hd hr
theorem EndsQ.retV (X : Stand p l e R s m args below meth c T locs cells slots) (hx : p.tables.exec = Jvm.exec) (hlk : meth.locks = false) {Qv : Option Value → Heap → List Loc → Prop} {rc rs pc : Nat} {Ls : Array Slot} (hret : meth.sig.returnType = none) (hd : decode c.code pc = .ok (.return_, 1))
    (h1 : cells ≤ rc) (h2 : slots ≤ rs) (hq : Qv none T.heap locs) : EndsQ p.tables e below s Qv rc rs (T.setTop (mkF m pc Ls [])) := by
  refine EndsQ.out X hlk (v := none) (fun _ => rfl) (fun fs hr => ?_) h1 h2 hq
  exact X.returnOut hx hret hd hr
theorem EndsQ.retD (X : Stand p l e R s m args below meth c T locs cells slots) (hx : p.tables.exec = Jvm.exec) (hlk : meth.locks = false) {Qv : Option Value → Heap → List Loc → Prop} {rc rs pc : Nat} {Ls : Array Slot} {z : UInt64} {rest : List Value} (hret : meth.sig.returnType = some .double) (hd : decode c.code pc = .ok (.dreturn, 1))
    (h1 : cells ≤ rc) (h2 : slots ≤ rs) (hq : Qv (some (.double z)) T.heap locs) : EndsQ p.tables e below s Qv rc rs (T.setTop (mkF m pc Ls (.double z :: rest))) := by
  refine EndsQ.out X hlk (v := some (.double z)) (fun h => by rw [hret] at h; cases h) (fun fs hr => ?_) h1 h2 hq
  exact retOut X hx hret rfl (Or.inr (Or.inr (Or.inl ⟨rfl, rfl, z, rfl⟩))) hd hr
end OwnKit
end Jvm.RoadKit
namespace Jvm.RoadKit
open Sem ClassFile Op Lib Jvm.Stand Jvm.Free Jvm.LawKit
theorem own_dupX2 {tb : Tables} [Ours tb] {e : Env} {below : List Frame} {T target : State} {m : MethodId} {c : Code} {g : JFrame} (h : At T m c below) (hx : tb.exec = Jvm.exec) (hg : g.method = m) {x y z : Value} {rest : List Value} (hd : decode c.code g.pc = .ok (.dup_x2, 1)) (hs : g.stack = x :: y :: z :: rest) (hc : x.category = 1) (hc2 : y.category = 1) (hc3 : z.category = 1)
    (hr : Steps tb e below (T.setTop { g with pc := g.pc + 1, stack := x :: y :: z :: x :: rest }) target) : Steps tb e below (T.setTop g) target := by
  subst hg
  jvm_step h [h.top, hx, hd, hs, hc, hc2, hc3]
  exact hr
end Jvm.RoadKit
namespace Jvm.Pilot.@@N@@
open Jvm Jvm.ClassFile Sem Op Lib Jvm.Free Jvm.Stand Jvm.LawKit Jvm.RoadKit Bundle Jvm.Pilot.@@N@@.Jvm.D
open Jvm.FP Jvm.Free.Fl
def own_St (Z : State) (h : Heap) (oo : Nat → Addr) (kk : Nat → ClassId) (cnt sz : Int32) (vca vpr vco vst var vta vix : List Value) : Prop := Exa Z h (oo 0) "com/example/physarum/physarum/Proposals" ∧ Fld Z h (oo 0) "com/example/physarum/physarum/Proposals" "candidates" "[I" (.ref (oo 1)) ∧ Fld Z h (oo 0) "com/example/physarum/physarum/Proposals" "proposed" "[I" (.ref (oo 2)) ∧ Fld Z h (oo 0) "com/example/physarum/physarum/Proposals" "confidences" "[D" (.ref (oo 3)) ∧ Fld Z h (oo 0) "com/example/physarum/physarum/Proposals" "starts" "[I" (.ref (oo 4)) ∧ Fld Z h (oo 0) "com/example/physarum/physarum/Proposals" "arranged" "[D" (.ref (oo 5)) ∧ Fld Z h (oo 0) "com/example/physarum/physarum/Proposals" "taken" "[I" (.ref (oo 6)) ∧ Fld Z h (oo 0) "com/example/physarum/physarum/Proposals" "indices" "[I" (.ref (oo 7)) ∧ Fld Z h (oo 0) "com/example/physarum/physarum/Proposals" "candidateCount" "I" (.int cnt) ∧ Fld Z h (oo 0) "com/example/physarum/physarum/Proposals" "size" "I" (.int sz) ∧ Arv Z h (oo 1) (kk 1) .int (16 : Int32) vca (.int (0 : Int32)) ∧ Arv Z h (oo 2) (kk 2) .int (64 : Int32) vpr (.int (0 : Int32)) ∧ Arv Z h (oo 3) (kk 3) .double (64 : Int32) vco (.double (0 : UInt64)) ∧ Arv Z h (oo 4) (kk 4) .int (17 : Int32) vst (.int (0 : Int32)) ∧ Arv Z h (oo 5) (kk 5) .double (64 : Int32) var (.double (0 : UInt64)) ∧ Arv Z h (oo 6) (kk 6) .int (16 : Int32) vta (.int (0 : Int32)) ∧ Arv Z h (oo 7) (kk 7) .int (4 : Int32) vix (.int (0 : Int32))

def own_o (a b1 b2 b3 b4 b5 b6 b7 : Addr) : Nat → Addr := fun i => match i with | 0 => a | 1 => b1 | 2 => b2 | 3 => b3 | 4 => b4 | 5 => b5 | 6 => b6 | _ => b7
def own_k (b1 b2 b3 b4 b5 b6 b7 : ClassId) : Nat → ClassId := fun i => match i with | 0 => b1 | 1 => b1 | 2 => b2 | 3 => b3 | 4 => b4 | 5 => b5 | 6 => b6 | _ => b7
def own_ne (o : Nat → Addr) : Prop := ∀ i j, i < 8 → j < 8 → i ≠ j → o i ≠ o j
def own_nn (n0 : Nat) (o : Nat → Addr) : Prop := ∀ i, i < 8 → n0 ≤ o i
def own_max (p q : Int32) : Int32 := if p < q then q else p
def own_L0 : List Value := [(.int (-1 : Int32)), (.int (-1 : Int32)), (.int (-1 : Int32)), (.int (-1 : Int32))]
theorem own_ne_of {a b1 b2 b3 b4 b5 b6 b7 : Addr} (n01 : a ≠ b1) (n02 : a ≠ b2) (n03 : a ≠ b3) (n04 : a ≠ b4) (n05 : a ≠ b5) (n06 : a ≠ b6) (n07 : a ≠ b7) (n12 : b1 ≠ b2) (n13 : b1 ≠ b3) (n14 : b1 ≠ b4) (n15 : b1 ≠ b5) (n16 : b1 ≠ b6) (n17 : b1 ≠ b7) (n23 : b2 ≠ b3) (n24 : b2 ≠ b4) (n25 : b2 ≠ b5) (n26 : b2 ≠ b6) (n27 : b2 ≠ b7) (n34 : b3 ≠ b4) (n35 : b3 ≠ b5) (n36 : b3 ≠ b6) (n37 : b3 ≠ b7) (n45 : b4 ≠ b5) (n46 : b4 ≠ b6) (n47 : b4 ≠ b7) (n56 : b5 ≠ b6) (n57 : b5 ≠ b7) (n67 : b6 ≠ b7) : own_ne (own_o a b1 b2 b3 b4 b5 b6 b7) := by
  intro i j hi hj hij
  have hi' : i = 0 ∨ i = 1 ∨ i = 2 ∨ i = 3 ∨ i = 4 ∨ i = 5 ∨ i = 6 ∨ i = 7 := by omega
  have hj' : j = 0 ∨ j = 1 ∨ j = 2 ∨ j = 3 ∨ j = 4 ∨ j = 5 ∨ j = 6 ∨ j = 7 := by omega
  rcases hi' with rfl | rfl | rfl | rfl | rfl | rfl | rfl | rfl <;> rcases hj' with rfl | rfl | rfl | rfl | rfl | rfl | rfl | rfl <;> first | exact absurd rfl hij | assumption | (apply Ne.symm; assumption)
theorem own_nn_of {n0 : Nat} {a b1 b2 b3 b4 b5 b6 b7 : Addr} (h0 : n0 ≤ a) (h1 : n0 ≤ b1) (h2 : n0 ≤ b2) (h3 : n0 ≤ b3) (h4 : n0 ≤ b4) (h5 : n0 ≤ b5) (h6 : n0 ≤ b6) (h7 : n0 ≤ b7) : own_nn n0 (own_o a b1 b2 b3 b4 b5 b6 b7) := by
  intro i hi
  have hi' : i = 0 ∨ i = 1 ∨ i = 2 ∨ i = 3 ∨ i = 4 ∨ i = 5 ∨ i = 6 ∨ i = 7 := by omega
  rcases hi' with rfl | rfl | rfl | rfl | rfl | rfl | rfl | rfl <;> assumption
theorem own_c4 (x : Int32) (h : ¬ x < (0 : Int32) ∧ x < (4 : Int32)) : x = 0 ∨ x = 1 ∨ x = 2 ∨ x = 3 := by
  have e : ∀ (j : Int32) (z : Int), j.toInt = z → x.toInt = z → x = j := fun j z hz h => Int32.toInt_inj.mp (h.trans hz.symm)
  have a1 : (0 : Int32).toInt = 0 := rfl
  have a2 : (4 : Int32).toInt = 4 := rfl
  rw [Int32.lt_iff_toInt_lt, Int32.lt_iff_toInt_lt] at h
  have h6 : x.toInt = 0 ∨ x.toInt = 1 ∨ x.toInt = 2 ∨ x.toInt = 3 := by omega
  rcases h6 with h | h | h | h
  · exact Or.inl (e 0 0 rfl h)
  · exact Or.inr (Or.inl (e 1 1 rfl h))
  · exact Or.inr (Or.inr (Or.inl (e 2 2 rfl h)))
  · exact Or.inr (Or.inr (Or.inr (e 3 3 rfl h)))
theorem own_and3 (x : Int32) : ¬ (x &&& (3 : Int32)) < (0 : Int32) ∧ (x &&& (3 : Int32)) < (4 : Int32) := by
  have h1 := c_mask x (3 : Int32) 2 (by decide) rfl
  have a1 : (0 : Int32).toInt = 0 := rfl
  have a2 : (4 : Int32).toInt = 4 := rfl
  rw [Int32.lt_iff_toInt_lt, Int32.lt_iff_toInt_lt]
  omega
theorem own_lt4 (x : Int32) (h : ¬ x < (0 : Int32) ∧ x < (4 : Int32)) : x.toNatClampNeg < 4 := by
  rcases own_c4 x h with rfl | rfl | rfl | rfl <;> decide
theorem own_b53 (x : Int32) : B53 (x.toInt64) := by
  have h := rng32 x
  unfold B53
  rw [c_i2l]
  omega
theorem own_clr1 (a : Int32) (h : ¬ a < (0 : Int32) ∧ a < (4 : Int32)) : ((own_L0.set a.toNatClampNeg (.int (0 : Int32))).set a.toNatClampNeg (.int (-1 : Int32))) = own_L0 := by
  rcases own_c4 a h with rfl | rfl | rfl | rfl <;> rfl
theorem own_clr2 (a b : Int32) (h : ¬ a < (0 : Int32) ∧ a < (4 : Int32)) (h' : ¬ b < (0 : Int32) ∧ b < (4 : Int32)) : ((((own_L0.set a.toNatClampNeg (.int (0 : Int32))).set b.toNatClampNeg (.int (1 : Int32))).set a.toNatClampNeg (.int (-1 : Int32))).set b.toNatClampNeg (.int (-1 : Int32))) = own_L0 := by
  rcases own_c4 a h with rfl | rfl | rfl | rfl <;> rcases own_c4 b h' with rfl | rfl | rfl | rfl <;> rfl
theorem own_g0 (a : Int32) (h : ¬ a < (0 : Int32) ∧ a < (4 : Int32)) : own_L0.getD a.toNatClampNeg (.int (0 : Int32)) = .int (-1 : Int32) := by
  rcases own_c4 a h with rfl | rfl | rfl | rfl <;> rfl
theorem own_g1 (a b : Int32) (h : ¬ a < (0 : Int32) ∧ a < (4 : Int32)) (h' : ¬ b < (0 : Int32) ∧ b < (4 : Int32)) (hn : ¬ a = b) : (own_L0.set a.toNatClampNeg (.int (0 : Int32))).getD b.toNatClampNeg (.int (0 : Int32)) = .int (-1 : Int32) := by
  rcases own_c4 a h with rfl | rfl | rfl | rfl <;> rcases own_c4 b h' with rfl | rfl | rfl | rfl <;> first | rfl | exact absurd rfl hn
theorem own_g2 (a b : Int32) (h : ¬ a < (0 : Int32) ∧ a < (4 : Int32)) (hn : a = b) : (own_L0.set a.toNatClampNeg (.int (0 : Int32))).getD b.toNatClampNeg (.int (0 : Int32)) = .int (0 : Int32) := by
  subst hn
  rcases own_c4 a h with rfl | rfl | rfl | rfl <;> rfl
theorem own_mx (x y : Int32) : (if x.toInt64 < y.toInt64 then y.toInt64 else x.toInt64) = (own_max x y).toInt64 := by
  unfold own_max
  by_cases q : x < y
  · rw [if_pos q, if_pos]
    rw [Int64.lt_iff_toInt_lt, c_i2l, c_i2l]; rw [Int32.lt_iff_toInt_lt] at q; exact q
  · rw [if_neg q, if_neg]
    rw [Int64.lt_iff_toInt_lt, c_i2l, c_i2l]; rw [Int32.lt_iff_toInt_lt] at q; exact q
theorem own_len0 : own_L0.length = 4 := rfl
theorem d3_0 : decode jdk_65_method_103_code 0 = .ok (.iconst 0, 1) := by decide +kernel
theorem d3_1 : decode jdk_65_method_103_code 1 = .ok (.istore_n 2, 1) := by decide +kernel
theorem d3_2 : decode jdk_65_method_103_code 2 = .ok (.aload_n 0, 1) := by decide +kernel
theorem d3_3 : decode jdk_65_method_103_code 3 = .ok (.arraylength, 1) := by decide +kernel
theorem d3_4 : decode jdk_65_method_103_code 4 = .ok (.istore_n 3, 1) := by decide +kernel
theorem d3_5 : decode jdk_65_method_103_code 5 = .ok (.iload_n 2, 1) := by decide +kernel
theorem d3_6 : decode jdk_65_method_103_code 6 = .ok (.iload_n 3, 1) := by decide +kernel
theorem d3_7 : decode jdk_65_method_103_code 7 = .ok (.if_icmp .ge 13, 3) := by decide +kernel
theorem d3_10 : decode jdk_65_method_103_code 10 = .ok (.aload_n 0, 1) := by decide +kernel
theorem d3_11 : decode jdk_65_method_103_code 11 = .ok (.iload_n 2, 1) := by decide +kernel
theorem d3_12 : decode jdk_65_method_103_code 12 = .ok (.iload_n 1, 1) := by decide +kernel
theorem d3_13 : decode jdk_65_method_103_code 13 = .ok (.iastore, 1) := by decide +kernel
theorem d3_14 : decode jdk_65_method_103_code 14 = .ok (.iinc 2 1, 3) := by decide +kernel
theorem d3_17 : decode jdk_65_method_103_code 17 = .ok (.goto (-12), 3) := by decide +kernel
theorem d3_20 : decode jdk_65_method_103_code 20 = .ok (.return_, 1) := by decide +kernel
theorem pn_3 : plainName "java/util/Arrays" = true := by first | (simp [plainName, overriddenIn]; done) | decide +kernel
theorem d13_0 : decode jdk_29_method_65_code 0 = .ok (.iload_n 0, 1) := by decide +kernel
theorem d13_1 : decode jdk_29_method_65_code 1 = .ok (.iload_n 1, 1) := by decide +kernel
theorem d13_2 : decode jdk_29_method_65_code 2 = .ok (.if_icmp .lt 7, 3) := by decide +kernel
theorem d13_5 : decode jdk_29_method_65_code 5 = .ok (.iload_n 0, 1) := by decide +kernel
theorem d13_6 : decode jdk_29_method_65_code 6 = .ok (.goto 4, 3) := by decide +kernel
theorem d13_9 : decode jdk_29_method_65_code 9 = .ok (.iload_n 1, 1) := by decide +kernel
theorem d13_10 : decode jdk_29_method_65_code 10 = .ok (.ireturn, 1) := by decide +kernel
theorem d1_0 : decode prog_44_method_1_code 0 = .ok (.aload_n 0, 1) := by decide +kernel
theorem d1_1 : decode prog_44_method_1_code 1 = .ok (.invokespecial 1, 3) := by decide +kernel
theorem d1_4 : decode prog_44_method_1_code 4 = .ok (.aload_n 0, 1) := by decide +kernel
theorem d1_5 : decode prog_44_method_1_code 5 = .ok (.bipush 16, 2) := by decide +kernel
theorem d1_7 : decode prog_44_method_1_code 7 = .ok (.newarray .int, 2) := by decide +kernel
theorem d1_9 : decode prog_44_method_1_code 9 = .ok (.putfield 7, 3) := by decide +kernel
theorem d1_12 : decode prog_44_method_1_code 12 = .ok (.aload_n 0, 1) := by decide +kernel
theorem d1_13 : decode prog_44_method_1_code 13 = .ok (.bipush 64, 2) := by decide +kernel
theorem d1_15 : decode prog_44_method_1_code 15 = .ok (.newarray .int, 2) := by decide +kernel
theorem d1_17 : decode prog_44_method_1_code 17 = .ok (.putfield 13, 3) := by decide +kernel
theorem d1_20 : decode prog_44_method_1_code 20 = .ok (.aload_n 0, 1) := by decide +kernel
theorem d1_21 : decode prog_44_method_1_code 21 = .ok (.bipush 64, 2) := by decide +kernel
theorem d1_23 : decode prog_44_method_1_code 23 = .ok (.newarray .double, 2) := by decide +kernel
theorem d1_25 : decode prog_44_method_1_code 25 = .ok (.putfield 16, 3) := by decide +kernel
theorem d1_28 : decode prog_44_method_1_code 28 = .ok (.aload_n 0, 1) := by decide +kernel
theorem d1_29 : decode prog_44_method_1_code 29 = .ok (.bipush 17, 2) := by decide +kernel
theorem d1_31 : decode prog_44_method_1_code 31 = .ok (.newarray .int, 2) := by decide +kernel
theorem d1_33 : decode prog_44_method_1_code 33 = .ok (.putfield 20, 3) := by decide +kernel
theorem d1_36 : decode prog_44_method_1_code 36 = .ok (.aload_n 0, 1) := by decide +kernel
theorem d1_37 : decode prog_44_method_1_code 37 = .ok (.bipush 64, 2) := by decide +kernel
theorem d1_39 : decode prog_44_method_1_code 39 = .ok (.newarray .double, 2) := by decide +kernel
theorem d1_41 : decode prog_44_method_1_code 41 = .ok (.putfield 23, 3) := by decide +kernel
theorem d1_44 : decode prog_44_method_1_code 44 = .ok (.aload_n 0, 1) := by decide +kernel
theorem d1_45 : decode prog_44_method_1_code 45 = .ok (.bipush 16, 2) := by decide +kernel
theorem d1_47 : decode prog_44_method_1_code 47 = .ok (.newarray .int, 2) := by decide +kernel
theorem d1_49 : decode prog_44_method_1_code 49 = .ok (.putfield 26, 3) := by decide +kernel
theorem d1_52 : decode prog_44_method_1_code 52 = .ok (.aload_n 0, 1) := by decide +kernel
theorem d1_53 : decode prog_44_method_1_code 53 = .ok (.iload_n 1, 1) := by decide +kernel
theorem d1_54 : decode prog_44_method_1_code 54 = .ok (.newarray .int, 2) := by decide +kernel
theorem d1_56 : decode prog_44_method_1_code 56 = .ok (.putfield 29, 3) := by decide +kernel
theorem d1_59 : decode prog_44_method_1_code 59 = .ok (.aload_n 0, 1) := by decide +kernel
theorem d1_60 : decode prog_44_method_1_code 60 = .ok (.getfield 29, 3) := by decide +kernel
theorem d1_63 : decode prog_44_method_1_code 63 = .ok (.iconst (-1), 1) := by decide +kernel
theorem d1_64 : decode prog_44_method_1_code 64 = .ok (.invokestatic 32, 3) := by decide +kernel
theorem d1_67 : decode prog_44_method_1_code 67 = .ok (.return_, 1) := by decide +kernel
theorem pn_1 : plainName "com/example/physarum/physarum/Proposals" = true := by first | (simp [plainName, overriddenIn]; done) | decide +kernel
theorem d4_0 : decode prog_44_method_3_code 0 = .ok (.aload_n 0, 1) := by decide +kernel
theorem d4_1 : decode prog_44_method_3_code 1 = .ok (.getfield 42, 3) := by decide +kernel
theorem d4_4 : decode prog_44_method_3_code 4 = .ok (.aload_n 0, 1) := by decide +kernel
theorem d4_5 : decode prog_44_method_3_code 5 = .ok (.getfield 16, 3) := by decide +kernel
theorem d4_8 : decode prog_44_method_3_code 8 = .ok (.arraylength, 1) := by decide +kernel
theorem d4_9 : decode prog_44_method_3_code 9 = .ok (.if_icmp .ne 37, 3) := by decide +kernel
theorem d4_12 : decode prog_44_method_3_code 12 = .ok (.aload_n 0, 1) := by decide +kernel
theorem d4_13 : decode prog_44_method_3_code 13 = .ok (.aload_n 0, 1) := by decide +kernel
theorem d4_14 : decode prog_44_method_3_code 14 = .ok (.getfield 16, 3) := by decide +kernel
theorem d4_17 : decode prog_44_method_3_code 17 = .ok (.iconst 2, 1) := by decide +kernel
theorem d4_18 : decode prog_44_method_3_code 18 = .ok (.aload_n 0, 1) := by decide +kernel
theorem d4_19 : decode prog_44_method_3_code 19 = .ok (.getfield 42, 3) := by decide +kernel
theorem d4_22 : decode prog_44_method_3_code 22 = .ok (.imul, 1) := by decide +kernel
theorem d4_23 : decode prog_44_method_3_code 23 = .ok (.invokestatic 45, 3) := by decide +kernel
theorem d4_26 : decode prog_44_method_3_code 26 = .ok (.putfield 16, 3) := by decide +kernel
theorem d4_29 : decode prog_44_method_3_code 29 = .ok (.aload_n 0, 1) := by decide +kernel
theorem d4_30 : decode prog_44_method_3_code 30 = .ok (.aload_n 0, 1) := by decide +kernel
theorem d4_31 : decode prog_44_method_3_code 31 = .ok (.getfield 13, 3) := by decide +kernel
theorem d4_34 : decode prog_44_method_3_code 34 = .ok (.iconst 2, 1) := by decide +kernel
theorem d4_35 : decode prog_44_method_3_code 35 = .ok (.aload_n 0, 1) := by decide +kernel
theorem d4_36 : decode prog_44_method_3_code 36 = .ok (.getfield 42, 3) := by decide +kernel
theorem d4_39 : decode prog_44_method_3_code 39 = .ok (.imul, 1) := by decide +kernel
theorem d4_40 : decode prog_44_method_3_code 40 = .ok (.invokestatic 49, 3) := by decide +kernel
theorem d4_43 : decode prog_44_method_3_code 43 = .ok (.putfield 13, 3) := by decide +kernel
theorem d4_46 : decode prog_44_method_3_code 46 = .ok (.aload_n 0, 1) := by decide +kernel
theorem d4_47 : decode prog_44_method_3_code 47 = .ok (.getfield 29, 3) := by decide +kernel
theorem d4_50 : decode prog_44_method_3_code 50 = .ok (.iload_n 1, 1) := by decide +kernel
theorem d4_51 : decode prog_44_method_3_code 51 = .ok (.iaload, 1) := by decide +kernel
theorem d4_52 : decode prog_44_method_3_code 52 = .ok (.istore 4, 2) := by decide +kernel
theorem d4_54 : decode prog_44_method_3_code 54 = .ok (.iload 4, 2) := by decide +kernel
theorem d4_56 : decode prog_44_method_3_code 56 = .ok (.ifCond .ge 105, 3) := by decide +kernel
theorem d4_59 : decode prog_44_method_3_code 59 = .ok (.aload_n 0, 1) := by decide +kernel
theorem d4_60 : decode prog_44_method_3_code 60 = .ok (.getfield 38, 3) := by decide +kernel
theorem d4_63 : decode prog_44_method_3_code 63 = .ok (.aload_n 0, 1) := by decide +kernel
theorem d4_64 : decode prog_44_method_3_code 64 = .ok (.getfield 7, 3) := by decide +kernel
theorem d4_67 : decode prog_44_method_3_code 67 = .ok (.arraylength, 1) := by decide +kernel
theorem d4_68 : decode prog_44_method_3_code 68 = .ok (.if_icmp .ne 56, 3) := by decide +kernel
theorem d4_71 : decode prog_44_method_3_code 71 = .ok (.aload_n 0, 1) := by decide +kernel
theorem d4_72 : decode prog_44_method_3_code 72 = .ok (.aload_n 0, 1) := by decide +kernel
theorem d4_73 : decode prog_44_method_3_code 73 = .ok (.getfield 7, 3) := by decide +kernel
theorem d4_76 : decode prog_44_method_3_code 76 = .ok (.iconst 2, 1) := by decide +kernel
theorem d4_77 : decode prog_44_method_3_code 77 = .ok (.aload_n 0, 1) := by decide +kernel
theorem d4_78 : decode prog_44_method_3_code 78 = .ok (.getfield 38, 3) := by decide +kernel
theorem d4_81 : decode prog_44_method_3_code 81 = .ok (.imul, 1) := by decide +kernel
theorem d4_82 : decode prog_44_method_3_code 82 = .ok (.invokestatic 49, 3) := by decide +kernel
theorem d4_85 : decode prog_44_method_3_code 85 = .ok (.putfield 7, 3) := by decide +kernel
theorem d4_88 : decode prog_44_method_3_code 88 = .ok (.aload_n 0, 1) := by decide +kernel
theorem d4_89 : decode prog_44_method_3_code 89 = .ok (.aload_n 0, 1) := by decide +kernel
theorem d4_90 : decode prog_44_method_3_code 90 = .ok (.getfield 20, 3) := by decide +kernel
theorem d4_93 : decode prog_44_method_3_code 93 = .ok (.iconst 2, 1) := by decide +kernel
theorem d4_94 : decode prog_44_method_3_code 94 = .ok (.aload_n 0, 1) := by decide +kernel
theorem d4_95 : decode prog_44_method_3_code 95 = .ok (.getfield 38, 3) := by decide +kernel
theorem d4_98 : decode prog_44_method_3_code 98 = .ok (.imul, 1) := by decide +kernel
theorem d4_99 : decode prog_44_method_3_code 99 = .ok (.iconst 1, 1) := by decide +kernel
theorem d4_100 : decode prog_44_method_3_code 100 = .ok (.iadd, 1) := by decide +kernel
theorem d4_101 : decode prog_44_method_3_code 101 = .ok (.invokestatic 49, 3) := by decide +kernel
theorem d4_104 : decode prog_44_method_3_code 104 = .ok (.putfield 20, 3) := by decide +kernel
theorem d4_107 : decode prog_44_method_3_code 107 = .ok (.aload_n 0, 1) := by decide +kernel
theorem d4_108 : decode prog_44_method_3_code 108 = .ok (.aload_n 0, 1) := by decide +kernel
theorem d4_109 : decode prog_44_method_3_code 109 = .ok (.getfield 26, 3) := by decide +kernel
theorem d4_112 : decode prog_44_method_3_code 112 = .ok (.iconst 2, 1) := by decide +kernel
theorem d4_113 : decode prog_44_method_3_code 113 = .ok (.aload_n 0, 1) := by decide +kernel
theorem d4_114 : decode prog_44_method_3_code 114 = .ok (.getfield 38, 3) := by decide +kernel
theorem d4_117 : decode prog_44_method_3_code 117 = .ok (.imul, 1) := by decide +kernel
theorem d4_118 : decode prog_44_method_3_code 118 = .ok (.invokestatic 49, 3) := by decide +kernel
theorem d4_121 : decode prog_44_method_3_code 121 = .ok (.putfield 26, 3) := by decide +kernel
theorem d4_124 : decode prog_44_method_3_code 124 = .ok (.aload_n 0, 1) := by decide +kernel
theorem d4_125 : decode prog_44_method_3_code 125 = .ok (.dup, 1) := by decide +kernel
theorem d4_126 : decode prog_44_method_3_code 126 = .ok (.getfield 38, 3) := by decide +kernel
theorem d4_129 : decode prog_44_method_3_code 129 = .ok (.dup_x1, 1) := by decide +kernel
theorem d4_130 : decode prog_44_method_3_code 130 = .ok (.iconst 1, 1) := by decide +kernel
theorem d4_131 : decode prog_44_method_3_code 131 = .ok (.iadd, 1) := by decide +kernel
theorem d4_132 : decode prog_44_method_3_code 132 = .ok (.putfield 38, 3) := by decide +kernel
theorem d4_135 : decode prog_44_method_3_code 135 = .ok (.istore 4, 2) := by decide +kernel
theorem d4_137 : decode prog_44_method_3_code 137 = .ok (.aload_n 0, 1) := by decide +kernel
theorem d4_138 : decode prog_44_method_3_code 138 = .ok (.getfield 29, 3) := by decide +kernel
theorem d4_141 : decode prog_44_method_3_code 141 = .ok (.iload_n 1, 1) := by decide +kernel
theorem d4_142 : decode prog_44_method_3_code 142 = .ok (.iload 4, 2) := by decide +kernel
theorem d4_144 : decode prog_44_method_3_code 144 = .ok (.iastore, 1) := by decide +kernel
theorem d4_145 : decode prog_44_method_3_code 145 = .ok (.aload_n 0, 1) := by decide +kernel
theorem d4_146 : decode prog_44_method_3_code 146 = .ok (.getfield 7, 3) := by decide +kernel
theorem d4_149 : decode prog_44_method_3_code 149 = .ok (.iload 4, 2) := by decide +kernel
theorem d4_151 : decode prog_44_method_3_code 151 = .ok (.iload_n 1, 1) := by decide +kernel
theorem d4_152 : decode prog_44_method_3_code 152 = .ok (.iastore, 1) := by decide +kernel
theorem d4_153 : decode prog_44_method_3_code 153 = .ok (.aload_n 0, 1) := by decide +kernel
theorem d4_154 : decode prog_44_method_3_code 154 = .ok (.getfield 20, 3) := by decide +kernel
theorem d4_157 : decode prog_44_method_3_code 157 = .ok (.iload 4, 2) := by decide +kernel
theorem d4_159 : decode prog_44_method_3_code 159 = .ok (.iconst 0, 1) := by decide +kernel
theorem d4_160 : decode prog_44_method_3_code 160 = .ok (.iastore, 1) := by decide +kernel
theorem d4_161 : decode prog_44_method_3_code 161 = .ok (.aload_n 0, 1) := by decide +kernel
theorem d4_162 : decode prog_44_method_3_code 162 = .ok (.getfield 13, 3) := by decide +kernel
theorem d4_165 : decode prog_44_method_3_code 165 = .ok (.aload_n 0, 1) := by decide +kernel
theorem d4_166 : decode prog_44_method_3_code 166 = .ok (.getfield 42, 3) := by decide +kernel
theorem d4_169 : decode prog_44_method_3_code 169 = .ok (.iload 4, 2) := by decide +kernel
theorem d4_171 : decode prog_44_method_3_code 171 = .ok (.iastore, 1) := by decide +kernel
theorem d4_172 : decode prog_44_method_3_code 172 = .ok (.aload_n 0, 1) := by decide +kernel
theorem d4_173 : decode prog_44_method_3_code 173 = .ok (.getfield 16, 3) := by decide +kernel
theorem d4_176 : decode prog_44_method_3_code 176 = .ok (.aload_n 0, 1) := by decide +kernel
theorem d4_177 : decode prog_44_method_3_code 177 = .ok (.getfield 42, 3) := by decide +kernel
theorem d4_180 : decode prog_44_method_3_code 180 = .ok (.dload_n 2, 1) := by decide +kernel
theorem d4_181 : decode prog_44_method_3_code 181 = .ok (.dastore, 1) := by decide +kernel
theorem d4_182 : decode prog_44_method_3_code 182 = .ok (.aload_n 0, 1) := by decide +kernel
theorem d4_183 : decode prog_44_method_3_code 183 = .ok (.getfield 20, 3) := by decide +kernel
theorem d4_186 : decode prog_44_method_3_code 186 = .ok (.iload 4, 2) := by decide +kernel
theorem d4_188 : decode prog_44_method_3_code 188 = .ok (.dup2, 1) := by decide +kernel
theorem d4_189 : decode prog_44_method_3_code 189 = .ok (.iaload, 1) := by decide +kernel
theorem d4_190 : decode prog_44_method_3_code 190 = .ok (.iconst 1, 1) := by decide +kernel
theorem d4_191 : decode prog_44_method_3_code 191 = .ok (.iadd, 1) := by decide +kernel
theorem d4_192 : decode prog_44_method_3_code 192 = .ok (.iastore, 1) := by decide +kernel
theorem d4_193 : decode prog_44_method_3_code 193 = .ok (.aload_n 0, 1) := by decide +kernel
theorem d4_194 : decode prog_44_method_3_code 194 = .ok (.dup, 1) := by decide +kernel
theorem d4_195 : decode prog_44_method_3_code 195 = .ok (.getfield 42, 3) := by decide +kernel
theorem d4_198 : decode prog_44_method_3_code 198 = .ok (.iconst 1, 1) := by decide +kernel
theorem d4_199 : decode prog_44_method_3_code 199 = .ok (.iadd, 1) := by decide +kernel
theorem d4_200 : decode prog_44_method_3_code 200 = .ok (.putfield 42, 3) := by decide +kernel
theorem d4_203 : decode prog_44_method_3_code 203 = .ok (.return_, 1) := by decide +kernel
theorem pn_4 : plainName "com/example/physarum/physarum/Proposals" = true := by first | (simp [plainName, overriddenIn]; done) | decide +kernel
theorem d5_0 : decode prog_44_method_2_code 0 = .ok (.iconst 0, 1) := by decide +kernel
theorem d5_1 : decode prog_44_method_2_code 1 = .ok (.istore_n 1, 1) := by decide +kernel
theorem d5_2 : decode prog_44_method_2_code 2 = .ok (.iload_n 1, 1) := by decide +kernel
theorem d5_3 : decode prog_44_method_2_code 3 = .ok (.aload_n 0, 1) := by decide +kernel
theorem d5_4 : decode prog_44_method_2_code 4 = .ok (.getfield 38, 3) := by decide +kernel
theorem d5_7 : decode prog_44_method_2_code 7 = .ok (.if_icmp .ge 21, 3) := by decide +kernel
theorem d5_10 : decode prog_44_method_2_code 10 = .ok (.aload_n 0, 1) := by decide +kernel
theorem d5_11 : decode prog_44_method_2_code 11 = .ok (.getfield 29, 3) := by decide +kernel
theorem d5_14 : decode prog_44_method_2_code 14 = .ok (.aload_n 0, 1) := by decide +kernel
theorem d5_15 : decode prog_44_method_2_code 15 = .ok (.getfield 7, 3) := by decide +kernel
theorem d5_18 : decode prog_44_method_2_code 18 = .ok (.iload_n 1, 1) := by decide +kernel
theorem d5_19 : decode prog_44_method_2_code 19 = .ok (.iaload, 1) := by decide +kernel
theorem d5_20 : decode prog_44_method_2_code 20 = .ok (.iconst (-1), 1) := by decide +kernel
theorem d5_21 : decode prog_44_method_2_code 21 = .ok (.iastore, 1) := by decide +kernel
theorem d5_22 : decode prog_44_method_2_code 22 = .ok (.iinc 1 1, 3) := by decide +kernel
theorem d5_25 : decode prog_44_method_2_code 25 = .ok (.goto (-23), 3) := by decide +kernel
theorem d5_28 : decode prog_44_method_2_code 28 = .ok (.aload_n 0, 1) := by decide +kernel
theorem d5_29 : decode prog_44_method_2_code 29 = .ok (.iconst 0, 1) := by decide +kernel
theorem d5_30 : decode prog_44_method_2_code 30 = .ok (.putfield 38, 3) := by decide +kernel
theorem d5_33 : decode prog_44_method_2_code 33 = .ok (.aload_n 0, 1) := by decide +kernel
theorem d5_34 : decode prog_44_method_2_code 34 = .ok (.iconst 0, 1) := by decide +kernel
theorem d5_35 : decode prog_44_method_2_code 35 = .ok (.putfield 42, 3) := by decide +kernel
theorem d5_38 : decode prog_44_method_2_code 38 = .ok (.return_, 1) := by decide +kernel
theorem pn_5 : plainName "com/example/physarum/physarum/Proposals" = true := by first | (simp [plainName, overriddenIn]; done) | decide +kernel
theorem d8_0 : decode prog_44_method_5_code 0 = .ok (.aload_n 0, 1) := by decide +kernel
theorem d8_1 : decode prog_44_method_5_code 1 = .ok (.getfield 38, 3) := by decide +kernel
theorem d8_4 : decode prog_44_method_5_code 4 = .ok (.ireturn, 1) := by decide +kernel
theorem pn_8 : plainName "com/example/physarum/physarum/Proposals" = true := by first | (simp [plainName, overriddenIn]; done) | decide +kernel
theorem d9_0 : decode prog_44_method_6_code 0 = .ok (.aload_n 0, 1) := by decide +kernel
theorem d9_1 : decode prog_44_method_6_code 1 = .ok (.getfield 7, 3) := by decide +kernel
theorem d9_4 : decode prog_44_method_6_code 4 = .ok (.iload_n 1, 1) := by decide +kernel
theorem d9_5 : decode prog_44_method_6_code 5 = .ok (.iaload, 1) := by decide +kernel
theorem d9_6 : decode prog_44_method_6_code 6 = .ok (.ireturn, 1) := by decide +kernel
theorem pn_9 : plainName "com/example/physarum/physarum/Proposals" = true := by first | (simp [plainName, overriddenIn]; done) | decide +kernel
theorem d7_0 : decode prog_44_method_7_code 0 = .ok (.aload_n 0, 1) := by decide +kernel
theorem d7_1 : decode prog_44_method_7_code 1 = .ok (.getfield 20, 3) := by decide +kernel
theorem d7_4 : decode prog_44_method_7_code 4 = .ok (.iload_n 1, 1) := by decide +kernel
theorem d7_5 : decode prog_44_method_7_code 5 = .ok (.iconst 1, 1) := by decide +kernel
theorem d7_6 : decode prog_44_method_7_code 6 = .ok (.iadd, 1) := by decide +kernel
theorem d7_7 : decode prog_44_method_7_code 7 = .ok (.iaload, 1) := by decide +kernel
theorem d7_8 : decode prog_44_method_7_code 8 = .ok (.aload_n 0, 1) := by decide +kernel
theorem d7_9 : decode prog_44_method_7_code 9 = .ok (.getfield 20, 3) := by decide +kernel
theorem d7_12 : decode prog_44_method_7_code 12 = .ok (.iload_n 1, 1) := by decide +kernel
theorem d7_13 : decode prog_44_method_7_code 13 = .ok (.iaload, 1) := by decide +kernel
theorem d7_14 : decode prog_44_method_7_code 14 = .ok (.isub, 1) := by decide +kernel
theorem d7_15 : decode prog_44_method_7_code 15 = .ok (.ireturn, 1) := by decide +kernel
theorem pn_7 : plainName "com/example/physarum/physarum/Proposals" = true := by first | (simp [plainName, overriddenIn]; done) | decide +kernel
theorem d12_0 : decode prog_44_method_11_code 0 = .ok (.aload_n 0, 1) := by decide +kernel
theorem d12_1 : decode prog_44_method_11_code 1 = .ok (.getfield 23, 3) := by decide +kernel
theorem d12_4 : decode prog_44_method_11_code 4 = .ok (.iload_n 1, 1) := by decide +kernel
theorem d12_5 : decode prog_44_method_11_code 5 = .ok (.iload_n 2, 1) := by decide +kernel
theorem d12_6 : decode prog_44_method_11_code 6 = .ok (.iadd, 1) := by decide +kernel
theorem d12_7 : decode prog_44_method_11_code 7 = .ok (.daload, 1) := by decide +kernel
theorem d12_8 : decode prog_44_method_11_code 8 = .ok (.dstore 4, 2) := by decide +kernel
theorem d12_10 : decode prog_44_method_11_code 10 = .ok (.iload_n 2, 1) := by decide +kernel
theorem d12_11 : decode prog_44_method_11_code 11 = .ok (.istore 6, 2) := by decide +kernel
theorem d12_13 : decode prog_44_method_11_code 13 = .ok (.iconst 2, 1) := by decide +kernel
theorem d12_14 : decode prog_44_method_11_code 14 = .ok (.iload 6, 2) := by decide +kernel
theorem d12_16 : decode prog_44_method_11_code 16 = .ok (.imul, 1) := by decide +kernel
theorem d12_17 : decode prog_44_method_11_code 17 = .ok (.iconst 1, 1) := by decide +kernel
theorem d12_18 : decode prog_44_method_11_code 18 = .ok (.iadd, 1) := by decide +kernel
theorem d12_19 : decode prog_44_method_11_code 19 = .ok (.istore 7, 2) := by decide +kernel
theorem d12_21 : decode prog_44_method_11_code 21 = .ok (.iload 7, 2) := by decide +kernel
theorem d12_23 : decode prog_44_method_11_code 23 = .ok (.iload_n 3, 1) := by decide +kernel
theorem d12_24 : decode prog_44_method_11_code 24 = .ok (.if_icmp .ge 89, 3) := by decide +kernel
theorem d12_27 : decode prog_44_method_11_code 27 = .ok (.iload 7, 2) := by decide +kernel
theorem d12_29 : decode prog_44_method_11_code 29 = .ok (.iconst 1, 1) := by decide +kernel
theorem d12_30 : decode prog_44_method_11_code 30 = .ok (.iadd, 1) := by decide +kernel
theorem d12_31 : decode prog_44_method_11_code 31 = .ok (.iload_n 3, 1) := by decide +kernel
theorem d12_32 : decode prog_44_method_11_code 32 = .ok (.if_icmp .ge 30, 3) := by decide +kernel
theorem d12_35 : decode prog_44_method_11_code 35 = .ok (.aload_n 0, 1) := by decide +kernel
theorem d12_36 : decode prog_44_method_11_code 36 = .ok (.getfield 23, 3) := by decide +kernel
theorem d12_39 : decode prog_44_method_11_code 39 = .ok (.iload_n 1, 1) := by decide +kernel
theorem d12_40 : decode prog_44_method_11_code 40 = .ok (.iload 7, 2) := by decide +kernel
theorem d12_42 : decode prog_44_method_11_code 42 = .ok (.iadd, 1) := by decide +kernel
theorem d12_43 : decode prog_44_method_11_code 43 = .ok (.iconst 1, 1) := by decide +kernel
theorem d12_44 : decode prog_44_method_11_code 44 = .ok (.iadd, 1) := by decide +kernel
theorem d12_45 : decode prog_44_method_11_code 45 = .ok (.daload, 1) := by decide +kernel
theorem d12_46 : decode prog_44_method_11_code 46 = .ok (.aload_n 0, 1) := by decide +kernel
theorem d12_47 : decode prog_44_method_11_code 47 = .ok (.getfield 23, 3) := by decide +kernel
theorem d12_50 : decode prog_44_method_11_code 50 = .ok (.iload_n 1, 1) := by decide +kernel
theorem d12_51 : decode prog_44_method_11_code 51 = .ok (.iload 7, 2) := by decide +kernel
theorem d12_53 : decode prog_44_method_11_code 53 = .ok (.iadd, 1) := by decide +kernel
theorem d12_54 : decode prog_44_method_11_code 54 = .ok (.daload, 1) := by decide +kernel
theorem d12_55 : decode prog_44_method_11_code 55 = .ok (.dcmp .l, 1) := by decide +kernel
theorem d12_56 : decode prog_44_method_11_code 56 = .ok (.ifCond .le 6, 3) := by decide +kernel
theorem d12_59 : decode prog_44_method_11_code 59 = .ok (.iinc 7 1, 3) := by decide +kernel
theorem d12_62 : decode prog_44_method_11_code 62 = .ok (.aload_n 0, 1) := by decide +kernel
theorem d12_63 : decode prog_44_method_11_code 63 = .ok (.getfield 23, 3) := by decide +kernel
theorem d12_66 : decode prog_44_method_11_code 66 = .ok (.iload_n 1, 1) := by decide +kernel
theorem d12_67 : decode prog_44_method_11_code 67 = .ok (.iload 7, 2) := by decide +kernel
theorem d12_69 : decode prog_44_method_11_code 69 = .ok (.iadd, 1) := by decide +kernel
theorem d12_70 : decode prog_44_method_11_code 70 = .ok (.daload, 1) := by decide +kernel
theorem d12_71 : decode prog_44_method_11_code 71 = .ok (.dload 4, 2) := by decide +kernel
theorem d12_73 : decode prog_44_method_11_code 73 = .ok (.dcmp .g, 1) := by decide +kernel
theorem d12_74 : decode prog_44_method_11_code 74 = .ok (.ifCond .gt 6, 3) := by decide +kernel
theorem d12_77 : decode prog_44_method_11_code 77 = .ok (.goto 36, 3) := by decide +kernel
theorem d12_80 : decode prog_44_method_11_code 80 = .ok (.aload_n 0, 1) := by decide +kernel
theorem d12_81 : decode prog_44_method_11_code 81 = .ok (.getfield 23, 3) := by decide +kernel
theorem d12_84 : decode prog_44_method_11_code 84 = .ok (.iload_n 1, 1) := by decide +kernel
theorem d12_85 : decode prog_44_method_11_code 85 = .ok (.iload 6, 2) := by decide +kernel
theorem d12_87 : decode prog_44_method_11_code 87 = .ok (.iadd, 1) := by decide +kernel
theorem d12_88 : decode prog_44_method_11_code 88 = .ok (.aload_n 0, 1) := by decide +kernel
theorem d12_89 : decode prog_44_method_11_code 89 = .ok (.getfield 23, 3) := by decide +kernel
theorem d12_92 : decode prog_44_method_11_code 92 = .ok (.iload_n 1, 1) := by decide +kernel
theorem d12_93 : decode prog_44_method_11_code 93 = .ok (.iload 7, 2) := by decide +kernel
theorem d12_95 : decode prog_44_method_11_code 95 = .ok (.iadd, 1) := by decide +kernel
theorem d12_96 : decode prog_44_method_11_code 96 = .ok (.daload, 1) := by decide +kernel
theorem d12_97 : decode prog_44_method_11_code 97 = .ok (.dastore, 1) := by decide +kernel
theorem d12_98 : decode prog_44_method_11_code 98 = .ok (.iload 7, 2) := by decide +kernel
theorem d12_100 : decode prog_44_method_11_code 100 = .ok (.istore 6, 2) := by decide +kernel
theorem d12_102 : decode prog_44_method_11_code 102 = .ok (.iconst 2, 1) := by decide +kernel
theorem d12_103 : decode prog_44_method_11_code 103 = .ok (.iload 6, 2) := by decide +kernel
theorem d12_105 : decode prog_44_method_11_code 105 = .ok (.imul, 1) := by decide +kernel
theorem d12_106 : decode prog_44_method_11_code 106 = .ok (.iconst 1, 1) := by decide +kernel
theorem d12_107 : decode prog_44_method_11_code 107 = .ok (.iadd, 1) := by decide +kernel
theorem d12_108 : decode prog_44_method_11_code 108 = .ok (.istore 7, 2) := by decide +kernel
theorem d12_110 : decode prog_44_method_11_code 110 = .ok (.goto (-89), 3) := by decide +kernel
theorem d12_113 : decode prog_44_method_11_code 113 = .ok (.aload_n 0, 1) := by decide +kernel
theorem d12_114 : decode prog_44_method_11_code 114 = .ok (.getfield 23, 3) := by decide +kernel
theorem d12_117 : decode prog_44_method_11_code 117 = .ok (.iload_n 1, 1) := by decide +kernel
theorem d12_118 : decode prog_44_method_11_code 118 = .ok (.iload 6, 2) := by decide +kernel
theorem d12_120 : decode prog_44_method_11_code 120 = .ok (.iadd, 1) := by decide +kernel
theorem d12_121 : decode prog_44_method_11_code 121 = .ok (.dload 4, 2) := by decide +kernel
theorem d12_123 : decode prog_44_method_11_code 123 = .ok (.dastore, 1) := by decide +kernel
theorem d12_124 : decode prog_44_method_11_code 124 = .ok (.return_, 1) := by decide +kernel
theorem pn_12 : plainName "com/example/physarum/physarum/Proposals" = true := by first | (simp [plainName, overriddenIn]; done) | decide +kernel
theorem d6_0 : decode prog_44_method_4_code 0 = .ok (.aload_n 0, 1) := by decide +kernel
theorem d6_1 : decode prog_44_method_4_code 1 = .ok (.getfield 23, 3) := by decide +kernel
theorem d6_4 : decode prog_44_method_4_code 4 = .ok (.arraylength, 1) := by decide +kernel
theorem d6_5 : decode prog_44_method_4_code 5 = .ok (.aload_n 0, 1) := by decide +kernel
theorem d6_6 : decode prog_44_method_4_code 6 = .ok (.getfield 42, 3) := by decide +kernel
theorem d6_9 : decode prog_44_method_4_code 9 = .ok (.if_icmp .ge 14, 3) := by decide +kernel
theorem d6_12 : decode prog_44_method_4_code 12 = .ok (.aload_n 0, 1) := by decide +kernel
theorem d6_13 : decode prog_44_method_4_code 13 = .ok (.aload_n 0, 1) := by decide +kernel
theorem d6_14 : decode prog_44_method_4_code 14 = .ok (.getfield 16, 3) := by decide +kernel
theorem d6_17 : decode prog_44_method_4_code 17 = .ok (.arraylength, 1) := by decide +kernel
theorem d6_18 : decode prog_44_method_4_code 18 = .ok (.newarray .double, 2) := by decide +kernel
theorem d6_20 : decode prog_44_method_4_code 20 = .ok (.putfield 23, 3) := by decide +kernel
theorem d6_23 : decode prog_44_method_4_code 23 = .ok (.iconst 0, 1) := by decide +kernel
theorem d6_24 : decode prog_44_method_4_code 24 = .ok (.istore_n 1, 1) := by decide +kernel
theorem d6_25 : decode prog_44_method_4_code 25 = .ok (.iconst 0, 1) := by decide +kernel
theorem d6_26 : decode prog_44_method_4_code 26 = .ok (.istore_n 2, 1) := by decide +kernel
theorem d6_27 : decode prog_44_method_4_code 27 = .ok (.iload_n 2, 1) := by decide +kernel
theorem d6_28 : decode prog_44_method_4_code 28 = .ok (.aload_n 0, 1) := by decide +kernel
theorem d6_29 : decode prog_44_method_4_code 29 = .ok (.getfield 38, 3) := by decide +kernel
theorem d6_32 : decode prog_44_method_4_code 32 = .ok (.if_icmp .ge 34, 3) := by decide +kernel
theorem d6_35 : decode prog_44_method_4_code 35 = .ok (.aload_n 0, 1) := by decide +kernel
theorem d6_36 : decode prog_44_method_4_code 36 = .ok (.getfield 20, 3) := by decide +kernel
theorem d6_39 : decode prog_44_method_4_code 39 = .ok (.iload_n 2, 1) := by decide +kernel
theorem d6_40 : decode prog_44_method_4_code 40 = .ok (.iaload, 1) := by decide +kernel
theorem d6_41 : decode prog_44_method_4_code 41 = .ok (.istore_n 3, 1) := by decide +kernel
theorem d6_42 : decode prog_44_method_4_code 42 = .ok (.aload_n 0, 1) := by decide +kernel
theorem d6_43 : decode prog_44_method_4_code 43 = .ok (.getfield 20, 3) := by decide +kernel
theorem d6_46 : decode prog_44_method_4_code 46 = .ok (.iload_n 2, 1) := by decide +kernel
theorem d6_47 : decode prog_44_method_4_code 47 = .ok (.iload_n 1, 1) := by decide +kernel
theorem d6_48 : decode prog_44_method_4_code 48 = .ok (.iastore, 1) := by decide +kernel
theorem d6_49 : decode prog_44_method_4_code 49 = .ok (.aload_n 0, 1) := by decide +kernel
theorem d6_50 : decode prog_44_method_4_code 50 = .ok (.getfield 26, 3) := by decide +kernel
theorem d6_53 : decode prog_44_method_4_code 53 = .ok (.iload_n 2, 1) := by decide +kernel
theorem d6_54 : decode prog_44_method_4_code 54 = .ok (.iload_n 1, 1) := by decide +kernel
theorem d6_55 : decode prog_44_method_4_code 55 = .ok (.iastore, 1) := by decide +kernel
theorem d6_56 : decode prog_44_method_4_code 56 = .ok (.iload_n 1, 1) := by decide +kernel
theorem d6_57 : decode prog_44_method_4_code 57 = .ok (.iload_n 3, 1) := by decide +kernel
theorem d6_58 : decode prog_44_method_4_code 58 = .ok (.iadd, 1) := by decide +kernel
theorem d6_59 : decode prog_44_method_4_code 59 = .ok (.istore_n 1, 1) := by decide +kernel
theorem d6_60 : decode prog_44_method_4_code 60 = .ok (.iinc 2 1, 3) := by decide +kernel
theorem d6_63 : decode prog_44_method_4_code 63 = .ok (.goto (-36), 3) := by decide +kernel
theorem d6_66 : decode prog_44_method_4_code 66 = .ok (.aload_n 0, 1) := by decide +kernel
theorem d6_67 : decode prog_44_method_4_code 67 = .ok (.getfield 20, 3) := by decide +kernel
theorem d6_70 : decode prog_44_method_4_code 70 = .ok (.aload_n 0, 1) := by decide +kernel
theorem d6_71 : decode prog_44_method_4_code 71 = .ok (.getfield 38, 3) := by decide +kernel
theorem d6_74 : decode prog_44_method_4_code 74 = .ok (.iload_n 1, 1) := by decide +kernel
theorem d6_75 : decode prog_44_method_4_code 75 = .ok (.iastore, 1) := by decide +kernel
theorem d6_76 : decode prog_44_method_4_code 76 = .ok (.iconst 0, 1) := by decide +kernel
theorem d6_77 : decode prog_44_method_4_code 77 = .ok (.istore_n 2, 1) := by decide +kernel
theorem d6_78 : decode prog_44_method_4_code 78 = .ok (.iload_n 2, 1) := by decide +kernel
theorem d6_79 : decode prog_44_method_4_code 79 = .ok (.aload_n 0, 1) := by decide +kernel
theorem d6_80 : decode prog_44_method_4_code 80 = .ok (.getfield 42, 3) := by decide +kernel
theorem d6_83 : decode prog_44_method_4_code 83 = .ok (.if_icmp .ge 36, 3) := by decide +kernel
theorem d6_86 : decode prog_44_method_4_code 86 = .ok (.aload_n 0, 1) := by decide +kernel
theorem d6_87 : decode prog_44_method_4_code 87 = .ok (.getfield 23, 3) := by decide +kernel
theorem d6_90 : decode prog_44_method_4_code 90 = .ok (.aload_n 0, 1) := by decide +kernel
theorem d6_91 : decode prog_44_method_4_code 91 = .ok (.getfield 26, 3) := by decide +kernel
theorem d6_94 : decode prog_44_method_4_code 94 = .ok (.aload_n 0, 1) := by decide +kernel
theorem d6_95 : decode prog_44_method_4_code 95 = .ok (.getfield 13, 3) := by decide +kernel
theorem d6_98 : decode prog_44_method_4_code 98 = .ok (.iload_n 2, 1) := by decide +kernel
theorem d6_99 : decode prog_44_method_4_code 99 = .ok (.iaload, 1) := by decide +kernel
theorem d6_100 : decode prog_44_method_4_code 100 = .ok (.dup2, 1) := by decide +kernel
theorem d6_101 : decode prog_44_method_4_code 101 = .ok (.iaload, 1) := by decide +kernel
theorem d6_102 : decode prog_44_method_4_code 102 = .ok (.dup_x2, 1) := by decide +kernel
theorem d6_103 : decode prog_44_method_4_code 103 = .ok (.iconst 1, 1) := by decide +kernel
theorem d6_104 : decode prog_44_method_4_code 104 = .ok (.iadd, 1) := by decide +kernel
theorem d6_105 : decode prog_44_method_4_code 105 = .ok (.iastore, 1) := by decide +kernel
theorem d6_106 : decode prog_44_method_4_code 106 = .ok (.aload_n 0, 1) := by decide +kernel
theorem d6_107 : decode prog_44_method_4_code 107 = .ok (.getfield 16, 3) := by decide +kernel
theorem d6_110 : decode prog_44_method_4_code 110 = .ok (.iload_n 2, 1) := by decide +kernel
theorem d6_111 : decode prog_44_method_4_code 111 = .ok (.daload, 1) := by decide +kernel
theorem d6_112 : decode prog_44_method_4_code 112 = .ok (.dastore, 1) := by decide +kernel
theorem d6_113 : decode prog_44_method_4_code 113 = .ok (.iinc 2 1, 3) := by decide +kernel
theorem d6_116 : decode prog_44_method_4_code 116 = .ok (.goto (-38), 3) := by decide +kernel
theorem d6_119 : decode prog_44_method_4_code 119 = .ok (.iconst 0, 1) := by decide +kernel
theorem d6_120 : decode prog_44_method_4_code 120 = .ok (.istore_n 2, 1) := by decide +kernel
theorem d6_121 : decode prog_44_method_4_code 121 = .ok (.iload_n 2, 1) := by decide +kernel
theorem d6_122 : decode prog_44_method_4_code 122 = .ok (.aload_n 0, 1) := by decide +kernel
theorem d6_123 : decode prog_44_method_4_code 123 = .ok (.getfield 38, 3) := by decide +kernel
theorem d6_126 : decode prog_44_method_4_code 126 = .ok (.if_icmp .ge 52, 3) := by decide +kernel
theorem d6_129 : decode prog_44_method_4_code 129 = .ok (.aload_n 0, 1) := by decide +kernel
theorem d6_130 : decode prog_44_method_4_code 130 = .ok (.getfield 26, 3) := by decide +kernel
theorem d6_133 : decode prog_44_method_4_code 133 = .ok (.iload_n 2, 1) := by decide +kernel
theorem d6_134 : decode prog_44_method_4_code 134 = .ok (.iconst 0, 1) := by decide +kernel
theorem d6_135 : decode prog_44_method_4_code 135 = .ok (.iastore, 1) := by decide +kernel
theorem d6_136 : decode prog_44_method_4_code 136 = .ok (.aload_n 0, 1) := by decide +kernel
theorem d6_137 : decode prog_44_method_4_code 137 = .ok (.iload_n 2, 1) := by decide +kernel
theorem d6_138 : decode prog_44_method_4_code 138 = .ok (.invokevirtual 52, 3) := by decide +kernel
theorem d6_141 : decode prog_44_method_4_code 141 = .ok (.iconst 2, 1) := by decide +kernel
theorem d6_142 : decode prog_44_method_4_code 142 = .ok (.idiv, 1) := by decide +kernel
theorem d6_143 : decode prog_44_method_4_code 143 = .ok (.iconst 1, 1) := by decide +kernel
theorem d6_144 : decode prog_44_method_4_code 144 = .ok (.isub, 1) := by decide +kernel
theorem d6_145 : decode prog_44_method_4_code 145 = .ok (.istore_n 3, 1) := by decide +kernel
theorem d6_146 : decode prog_44_method_4_code 146 = .ok (.iload_n 3, 1) := by decide +kernel
theorem d6_147 : decode prog_44_method_4_code 147 = .ok (.ifCond .lt 25, 3) := by decide +kernel
theorem d6_150 : decode prog_44_method_4_code 150 = .ok (.aload_n 0, 1) := by decide +kernel
theorem d6_151 : decode prog_44_method_4_code 151 = .ok (.aload_n 0, 1) := by decide +kernel
theorem d6_152 : decode prog_44_method_4_code 152 = .ok (.getfield 20, 3) := by decide +kernel
theorem d6_155 : decode prog_44_method_4_code 155 = .ok (.iload_n 2, 1) := by decide +kernel
theorem d6_156 : decode prog_44_method_4_code 156 = .ok (.iaload, 1) := by decide +kernel
theorem d6_157 : decode prog_44_method_4_code 157 = .ok (.iload_n 3, 1) := by decide +kernel
theorem d6_158 : decode prog_44_method_4_code 158 = .ok (.aload_n 0, 1) := by decide +kernel
theorem d6_159 : decode prog_44_method_4_code 159 = .ok (.iload_n 2, 1) := by decide +kernel
theorem d6_160 : decode prog_44_method_4_code 160 = .ok (.invokevirtual 52, 3) := by decide +kernel
theorem d6_163 : decode prog_44_method_4_code 163 = .ok (.invokevirtual 56, 3) := by decide +kernel
theorem d6_166 : decode prog_44_method_4_code 166 = .ok (.iinc 3 (-1), 3) := by decide +kernel
theorem d6_169 : decode prog_44_method_4_code 169 = .ok (.goto (-23), 3) := by decide +kernel
theorem d6_172 : decode prog_44_method_4_code 172 = .ok (.iinc 2 1, 3) := by decide +kernel
theorem d6_175 : decode prog_44_method_4_code 175 = .ok (.goto (-54), 3) := by decide +kernel
theorem d6_178 : decode prog_44_method_4_code 178 = .ok (.return_, 1) := by decide +kernel
theorem pn_6 : plainName "com/example/physarum/physarum/Proposals" = true := by first | (simp [plainName, overriddenIn]; done) | decide +kernel
theorem d11_0 : decode prog_44_method_9_code 0 = .ok (.aload_n 0, 1) := by decide +kernel
theorem d11_1 : decode prog_44_method_9_code 1 = .ok (.getfield 20, 3) := by decide +kernel
theorem d11_4 : decode prog_44_method_9_code 4 = .ok (.iload_n 1, 1) := by decide +kernel
theorem d11_5 : decode prog_44_method_9_code 5 = .ok (.iaload, 1) := by decide +kernel
theorem d11_6 : decode prog_44_method_9_code 6 = .ok (.istore_n 3, 1) := by decide +kernel
theorem d11_7 : decode prog_44_method_9_code 7 = .ok (.aload_n 0, 1) := by decide +kernel
theorem d11_8 : decode prog_44_method_9_code 8 = .ok (.getfield 26, 3) := by decide +kernel
theorem d11_11 : decode prog_44_method_9_code 11 = .ok (.iload_n 1, 1) := by decide +kernel
theorem d11_12 : decode prog_44_method_9_code 12 = .ok (.iaload, 1) := by decide +kernel
theorem d11_13 : decode prog_44_method_9_code 13 = .ok (.iload_n 2, 1) := by decide +kernel
theorem d11_14 : decode prog_44_method_9_code 14 = .ok (.if_icmp .gt 74, 3) := by decide +kernel
theorem d11_17 : decode prog_44_method_9_code 17 = .ok (.aload_n 0, 1) := by decide +kernel
theorem d11_18 : decode prog_44_method_9_code 18 = .ok (.iload_n 1, 1) := by decide +kernel
theorem d11_19 : decode prog_44_method_9_code 19 = .ok (.invokevirtual 52, 3) := by decide +kernel
theorem d11_22 : decode prog_44_method_9_code 22 = .ok (.iconst 1, 1) := by decide +kernel
theorem d11_23 : decode prog_44_method_9_code 23 = .ok (.isub, 1) := by decide +kernel
theorem d11_24 : decode prog_44_method_9_code 24 = .ok (.aload_n 0, 1) := by decide +kernel
theorem d11_25 : decode prog_44_method_9_code 25 = .ok (.getfield 26, 3) := by decide +kernel
theorem d11_28 : decode prog_44_method_9_code 28 = .ok (.iload_n 1, 1) := by decide +kernel
theorem d11_29 : decode prog_44_method_9_code 29 = .ok (.iaload, 1) := by decide +kernel
theorem d11_30 : decode prog_44_method_9_code 30 = .ok (.isub, 1) := by decide +kernel
theorem d11_31 : decode prog_44_method_9_code 31 = .ok (.istore 4, 2) := by decide +kernel
theorem d11_33 : decode prog_44_method_9_code 33 = .ok (.aload_n 0, 1) := by decide +kernel
theorem d11_34 : decode prog_44_method_9_code 34 = .ok (.getfield 23, 3) := by decide +kernel
theorem d11_37 : decode prog_44_method_9_code 37 = .ok (.iload_n 3, 1) := by decide +kernel
theorem d11_38 : decode prog_44_method_9_code 38 = .ok (.daload, 1) := by decide +kernel
theorem d11_39 : decode prog_44_method_9_code 39 = .ok (.dstore 5, 2) := by decide +kernel
theorem d11_41 : decode prog_44_method_9_code 41 = .ok (.aload_n 0, 1) := by decide +kernel
theorem d11_42 : decode prog_44_method_9_code 42 = .ok (.getfield 23, 3) := by decide +kernel
theorem d11_45 : decode prog_44_method_9_code 45 = .ok (.iload_n 3, 1) := by decide +kernel
theorem d11_46 : decode prog_44_method_9_code 46 = .ok (.aload_n 0, 1) := by decide +kernel
theorem d11_47 : decode prog_44_method_9_code 47 = .ok (.getfield 23, 3) := by decide +kernel
theorem d11_50 : decode prog_44_method_9_code 50 = .ok (.iload_n 3, 1) := by decide +kernel
theorem d11_51 : decode prog_44_method_9_code 51 = .ok (.iload 4, 2) := by decide +kernel
theorem d11_53 : decode prog_44_method_9_code 53 = .ok (.iadd, 1) := by decide +kernel
theorem d11_54 : decode prog_44_method_9_code 54 = .ok (.daload, 1) := by decide +kernel
theorem d11_55 : decode prog_44_method_9_code 55 = .ok (.dastore, 1) := by decide +kernel
theorem d11_56 : decode prog_44_method_9_code 56 = .ok (.aload_n 0, 1) := by decide +kernel
theorem d11_57 : decode prog_44_method_9_code 57 = .ok (.getfield 23, 3) := by decide +kernel
theorem d11_60 : decode prog_44_method_9_code 60 = .ok (.iload_n 3, 1) := by decide +kernel
theorem d11_61 : decode prog_44_method_9_code 61 = .ok (.iload 4, 2) := by decide +kernel
theorem d11_63 : decode prog_44_method_9_code 63 = .ok (.iadd, 1) := by decide +kernel
theorem d11_64 : decode prog_44_method_9_code 64 = .ok (.dload 5, 2) := by decide +kernel
theorem d11_66 : decode prog_44_method_9_code 66 = .ok (.dastore, 1) := by decide +kernel
theorem d11_67 : decode prog_44_method_9_code 67 = .ok (.aload_n 0, 1) := by decide +kernel
theorem d11_68 : decode prog_44_method_9_code 68 = .ok (.iload_n 3, 1) := by decide +kernel
theorem d11_69 : decode prog_44_method_9_code 69 = .ok (.iconst 0, 1) := by decide +kernel
theorem d11_70 : decode prog_44_method_9_code 70 = .ok (.iload 4, 2) := by decide +kernel
theorem d11_72 : decode prog_44_method_9_code 72 = .ok (.invokevirtual 56, 3) := by decide +kernel
theorem d11_75 : decode prog_44_method_9_code 75 = .ok (.aload_n 0, 1) := by decide +kernel
theorem d11_76 : decode prog_44_method_9_code 76 = .ok (.getfield 26, 3) := by decide +kernel
theorem d11_79 : decode prog_44_method_9_code 79 = .ok (.iload_n 1, 1) := by decide +kernel
theorem d11_80 : decode prog_44_method_9_code 80 = .ok (.dup2, 1) := by decide +kernel
theorem d11_81 : decode prog_44_method_9_code 81 = .ok (.iaload, 1) := by decide +kernel
theorem d11_82 : decode prog_44_method_9_code 82 = .ok (.iconst 1, 1) := by decide +kernel
theorem d11_83 : decode prog_44_method_9_code 83 = .ok (.iadd, 1) := by decide +kernel
theorem d11_84 : decode prog_44_method_9_code 84 = .ok (.iastore, 1) := by decide +kernel
theorem d11_85 : decode prog_44_method_9_code 85 = .ok (.goto (-78), 3) := by decide +kernel
theorem d11_88 : decode prog_44_method_9_code 88 = .ok (.aload_n 0, 1) := by decide +kernel
theorem d11_89 : decode prog_44_method_9_code 89 = .ok (.getfield 23, 3) := by decide +kernel
theorem d11_92 : decode prog_44_method_9_code 92 = .ok (.aload_n 0, 1) := by decide +kernel
theorem d11_93 : decode prog_44_method_9_code 93 = .ok (.getfield 20, 3) := by decide +kernel
theorem d11_96 : decode prog_44_method_9_code 96 = .ok (.iload_n 1, 1) := by decide +kernel
theorem d11_97 : decode prog_44_method_9_code 97 = .ok (.iconst 1, 1) := by decide +kernel
theorem d11_98 : decode prog_44_method_9_code 98 = .ok (.iadd, 1) := by decide +kernel
theorem d11_99 : decode prog_44_method_9_code 99 = .ok (.iaload, 1) := by decide +kernel
theorem d11_100 : decode prog_44_method_9_code 100 = .ok (.iconst 1, 1) := by decide +kernel
theorem d11_101 : decode prog_44_method_9_code 101 = .ok (.isub, 1) := by decide +kernel
theorem d11_102 : decode prog_44_method_9_code 102 = .ok (.iload_n 2, 1) := by decide +kernel
theorem d11_103 : decode prog_44_method_9_code 103 = .ok (.isub, 1) := by decide +kernel
theorem d11_104 : decode prog_44_method_9_code 104 = .ok (.daload, 1) := by decide +kernel
theorem d11_105 : decode prog_44_method_9_code 105 = .ok (.dreturn, 1) := by decide +kernel
theorem pn_11 : plainName "com/example/physarum/physarum/Proposals" = true := by first | (simp [plainName, overriddenIn]; done) | decide +kernel
theorem d10_0 : decode prog_44_method_8_code 0 = .ok (.aload_n 0, 1) := by decide +kernel
theorem d10_1 : decode prog_44_method_8_code 1 = .ok (.iload_n 1, 1) := by decide +kernel
theorem d10_2 : decode prog_44_method_8_code 2 = .ok (.iconst 0, 1) := by decide +kernel
theorem d10_3 : decode prog_44_method_8_code 3 = .ok (.invokevirtual 60, 3) := by decide +kernel
theorem d10_6 : decode prog_44_method_8_code 6 = .ok (.dreturn, 1) := by decide +kernel
theorem pn_10 : plainName "com/example/physarum/physarum/Proposals" = true := by first | (simp [plainName, overriddenIn]; done) | decide +kernel
theorem pn_0 : plainName "com/example/physarum/physarum/ProposalsClearPinLaw" = true := by first | (simp [plainName, overriddenIn]; done) | decide +kernel
theorem pd_0 : parseMethodDescriptor "([II)V" = some ⟨[(.array .int), .int], none⟩ := by decide +kernel
theorem pd_1 : parseMethodDescriptor "(I)I" = some ⟨[.int], some .int⟩ := by decide +kernel
theorem pd_2 : parseMethodDescriptor "(III)V" = some ⟨[.int, .int, .int], none⟩ := by decide +kernel
theorem pd_3 : parseMethodDescriptor "(II)D" = some ⟨[.int, .int], some .double⟩ := by decide +kernel
theorem pd_4 : parseMethodDescriptor "(I)V" = some ⟨[.int], none⟩ := by decide +kernel
theorem pd_5 : parseMethodDescriptor "(ID)V" = some ⟨[.int, .double], none⟩ := by decide +kernel
theorem pd_6 : parseMethodDescriptor "()V" = some ⟨[], none⟩ := by decide +kernel
theorem pd_7 : parseMethodDescriptor "(II)I" = some ⟨[.int, .int], some .int⟩ := by decide +kernel
theorem pd_8 : parseMethodDescriptor "()I" = some ⟨[], some .int⟩ := by decide +kernel
theorem pd_9 : parseMethodDescriptor "(I)D" = some ⟨[.int], some .double⟩ := by decide +kernel
theorem ef_Fill (m : MethodId) (x0 : Addr) (x1 : Int32) : entryFrame m #[(.ref x0), (.int x1)] 4 = mkF m 0 #[.val (.ref x0), .val (.int x1), .unset, .unset] [] := by first | (simp [entryFrame, mkF, argsToLocals, Value.category]; done) | rfl
def QFill (Z : State) (a1 : Addr) (kA : ClassId) (h0 : Heap) (n0 : Nat) (v : Option Value) (h : Heap) (L : List Loc) : Prop := v = none ∧ Fr n0 L ∧ Keep h0 h [a1] ∧ Arv Z h a1 kA .int (4 : Int32) [(.int (-1 : Int32)), (.int (-1 : Int32)), (.int (-1 : Int32)), (.int (-1 : Int32))] (.int (0 : Int32))
set_option maxRecDepth 65536 in
set_option maxHeartbeats 40000000 in
theorem rmFill (l : Launch) (Z : State) (a0 : Array Value) (hw : ∀ d ∈ tables_1, d.before a0 Z = true) (ws : List Jvm.Cond) (a1 : Addr) (kA : ClassId) (h0 : Heap) (n0 : Nat) (Z0 : n0 ≤ h0.size) (V1 : Arv Z h0 a1 kA .int (4 : Int32) [(.int (0 : Int32)), (.int (0 : Int32)), (.int (0 : Int32)), (.int (0 : Int32))] (.int (0 : Int32))) (g1 : n0 ≤ a1) :
    MetFree l (⟨"java/util/Arrays", "fill", "([II)V"⟩ : MethodName) (head1 (Jvm.Cond.code (⟨"java/util/Arrays", "fill", "([II)V"⟩ : MethodName) jdk_65_method_103_code 4 none :: ws) ({ frames := 0, cells := 0, slots := 0, locals := 0 } : Room)) (fun a U => a = #[(.ref a1), (.int (-1 : Int32))] ∧ Z.Warmed39 U.vm ∧ U.heap = h0) (fun _ _ _ _ _ => True) (fun _ U o U' => ∃ v L, o = .returned v ∧ QFill Z a1 kA h0 n0 v U'.heap L ∧ FrameEnd U o U' L ({ frames := 0, cells := 0, slots := 0, locals := 0 } : Room).cells ({ frames := 0, cells := 0, slots := 0, locals := 0 } : Room).slots) := by
  refine MetFree.of_bodySF (plainFor_of_name pn_3) hisR ?_
  intro p e s m args below meth c s₁ Bd hml0 hP hK
  obtain ⟨rfl, hZ, hh⟩ := hP
  have hx := Bd.exec
  have hby := Bd.bytes
  have hml : c.maxLocals = 4 := hml0
  have hown : s.vm.findClass "java/util/Arrays" = some m.cls := findClass_of_methodNamed Bd.named
  have hnm := (name_of_methodNamed Bd.named Bd.method).1
  have X0 : Stand p l e ({ frames := 0, cells := 0, slots := 0, locals := 0 } : Room) s m #[(.ref a1), (.int (-1 : Int32))] below meth c s₁ [] 0 0 := Stand.of_body Bd
  have e0 : s₁.heap = h0 := by rw [← hh, Bd.state]; rfl
  have N0 := Fr.nil n0
  show EndsQ p.tables e below s (fun v h L => QFill Z a1 kA h0 n0 v h L) ({ frames := 0, cells := 0, slots := 0, locals := 0 } : Room).cells ({ frames := 0, cells := 0, slots := 0, locals := 0 } : Room).slots _
  refine EndsQ.go (b := s₁.setTop (mkF m 0 #[.val (.ref a1), .val (.int (-1 : Int32)), .unset, .unset] [])) (fun t k => castTop (ef_Fill m a1 (-1 : Int32)) k) ?_
  have K0 : Keep h0 h0 [a1] := Keep.refl _ _
  refine EndsQ.go (b := s₁.setTop (mkF m 3 #[.val (.ref a1), .val (.int (-1 : Int32)), .val (.int (0 : Int32)), .unset] [(.ref a1)])) (fun t k => ?_) ?_
  · show Steps p.tables e below (s₁.setTop (mkF m 0 #[.val (.ref a1), .val (.int (-1 : Int32)), .unset, .unset] [])) _
    refine XS.iconst X0.here hx rfl (hb hby d3_0) ?_
    refine XS.istoreN X0.here hx rfl (hb hby d3_1) rfl (l' := #[.val (.ref a1), .val (.int (-1 : Int32)), .val (.int (0 : Int32)), .unset]) rfl ?_
    refine XS.aloadN X0.here hx rfl (hb hby d3_2) rfl rfl ?_
    exact k
  obtain ⟨cl101, Ar101, -, S101, M101, -, -⟩ := id V1
  refine EndsQ.go (fun t k => X0.arraylength hx (by rw [e0]; exact Ar101.1) (State.isArrayOf_alike hZ.alike Ar101.2.1) (g := (mkF m 3 #[.val (.ref a1), .val (.int (-1 : Int32)), .val (.int (0 : Int32)), .unset] [(.ref a1)])) rfl rfl (hb hby d3_3) _ k) ?_
  rw [len_of S101 M101]
  show EndsQ _ _ _ _ _ _ _ (s₁.setTop (mkF m 4 #[.val (.ref a1), .val (.int (-1 : Int32)), .val (.int (0 : Int32)), .unset] [(.int (4 : Int32))]))
  refine EndsQ.go (b := s₁.setTop (mkF m 13 #[.val (.ref a1), .val (.int (-1 : Int32)), .val (.int (0 : Int32)), .val (.int (4 : Int32))] [(.int (-1 : Int32)), (.int (0 : Int32)), (.ref a1)])) (fun t k => ?_) ?_
  · show Steps p.tables e below (s₁.setTop (mkF m 4 #[.val (.ref a1), .val (.int (-1 : Int32)), .val (.int (0 : Int32)), .unset] [(.int (4 : Int32))])) _
    refine XS.istoreN X0.here hx rfl (hb hby d3_4) rfl (l' := #[.val (.ref a1), .val (.int (-1 : Int32)), .val (.int (0 : Int32)), .val (.int (4 : Int32))]) rfl ?_
    show Steps p.tables e below (s₁.setTop (mkF m 5 #[.val (.ref a1), .val (.int (-1 : Int32)), .val (.int (0 : Int32)), .val (.int (4 : Int32))] [])) _
    refine XS.iloadN X0.here hx rfl (hb hby d3_5) rfl ?_
    refine XS.iloadN X0.here hx rfl (hb hby d3_6) rfl ?_
    refine XS.icmpNo X0.here hx rfl (hb hby d3_7) rfl (tlt (by decide)).2.1 ?_
    show Steps p.tables e below (s₁.setTop (mkF m 10 #[.val (.ref a1), .val (.int (-1 : Int32)), .val (.int (0 : Int32)), .val (.int (4 : Int32))] [])) _
    refine XS.aloadN X0.here hx rfl (hb hby d3_10) rfl rfl ?_
    refine XS.iloadN X0.here hx rfl (hb hby d3_11) rfl ?_
    show Steps p.tables e below (s₁.setTop (mkF m 12 #[.val (.ref a1), .val (.int (-1 : Int32)), .val (.int (0 : Int32)), .val (.int (4 : Int32))] [(.int (0 : Int32)), (.ref a1)])) _
    refine XS.iloadN X0.here hx rfl (hb hby d3_12) rfl ?_
    exact k
  obtain ⟨cl102, Ar102, q102, S102, M102, H102, G102⟩ := id V1
  have hin102 : ¬ ((0 : Int32) < 0 ∨ cl102.slots.size ≤ ((0 : Int32)).toNatClampNeg) := inb_of S102 ⟨by decide, by decide⟩
  obtain ⟨T102, h102, X102, e102, W102, st102⟩ := stI X0 hx hZ e0 Ar102 (j := (0 : Int32)) hin102 (g := (mkF m 13 #[.val (.ref a1), .val (.int (-1 : Int32)), .val (.int (0 : Int32)), .val (.int (4 : Int32))] [(.int (-1 : Int32)), (.int (0 : Int32)), (.ref a1)])) rfl rfl (hb hby d3_13)
  have fa102 : Arv Z h102 a1 kA .int (4 : Int32) [(.int (-1 : Int32)), (.int (0 : Int32)), (.int (0 : Int32)), (.int (0 : Int32))] (.int (0 : Int32)) := Arv.set Ar102 q102 S102 M102 H102 G102 rfl W102 0 rfl (Nat.le_of_ble_eq_true rfl)
  have f103 := Nat.le_trans Z0 (Keep.of_wr W102).1
  have f104 := K0.wr W102 (Or.inl (List.mem_of_getElem? (i := 0) rfl))
  have N102 := Fr.snoc X102 N0 g1
  refine EndsQ.go st102 ?_
  show EndsQ _ _ _ _ _ _ _ (T102.setTop (mkF m 14 #[.val (.ref a1), .val (.int (-1 : Int32)), .val (.int (0 : Int32)), .val (.int (4 : Int32))] []))
  refine EndsQ.go (b := T102.setTop (mkF m 13 #[.val (.ref a1), .val (.int (-1 : Int32)), .val (.int (1 : Int32)), .val (.int (4 : Int32))] [(.int (-1 : Int32)), (.int (1 : Int32)), (.ref a1)])) (fun t k => ?_) ?_
  · show Steps p.tables e below (T102.setTop (mkF m 14 #[.val (.ref a1), .val (.int (-1 : Int32)), .val (.int (0 : Int32)), .val (.int (4 : Int32))] [])) _
    refine XS.iinc X102.here hx rfl (hb hby d3_14) rfl (l' := #[.val (.ref a1), .val (.int (-1 : Int32)), .val (.int ((0 : Int32) + Int32.ofInt 1)), .val (.int (4 : Int32))]) rfl ?_
    show Steps p.tables e below (T102.setTop (mkF m 17 #[.val (.ref a1), .val (.int (-1 : Int32)), .val (.int ((0 : Int32) + Int32.ofInt 1)), .val (.int (4 : Int32))] [])) _
    rw [(by decide : ((0 : Int32) + Int32.ofInt 1) = (1 : Int32))]
    show Steps p.tables e below (T102.setTop (mkF m 17 #[.val (.ref a1), .val (.int (-1 : Int32)), .val (.int (1 : Int32)), .val (.int (4 : Int32))] [])) _
    refine XS.goto X102.here hx rfl (pc0 := 17) (pc' := 5) rfl (hb hby d3_17) (by decide) (by decide) ?_
    refine XS.iloadN X102.here hx rfl (hb hby d3_5) rfl ?_
    show Steps p.tables e below (T102.setTop (mkF m 6 #[.val (.ref a1), .val (.int (-1 : Int32)), .val (.int (1 : Int32)), .val (.int (4 : Int32))] [(.int (1 : Int32))])) _
    refine XS.iloadN X102.here hx rfl (hb hby d3_6) rfl ?_
    refine XS.icmpNo X102.here hx rfl (hb hby d3_7) rfl (tlt (by decide)).2.1 ?_
    show Steps p.tables e below (T102.setTop (mkF m 10 #[.val (.ref a1), .val (.int (-1 : Int32)), .val (.int (1 : Int32)), .val (.int (4 : Int32))] [])) _
    refine XS.aloadN X102.here hx rfl (hb hby d3_10) rfl rfl ?_
    refine XS.iloadN X102.here hx rfl (hb hby d3_11) rfl ?_
    refine XS.iloadN X102.here hx rfl (hb hby d3_12) rfl ?_
    show Steps p.tables e below (T102.setTop (mkF m 13 #[.val (.ref a1), .val (.int (-1 : Int32)), .val (.int (1 : Int32)), .val (.int (4 : Int32))] [(.int (-1 : Int32)), (.int (1 : Int32)), (.ref a1)])) _
    exact k
  obtain ⟨cl105, Ar105, q105, S105, M105, H105, G105⟩ := id fa102
  have hin105 : ¬ ((1 : Int32) < 0 ∨ cl105.slots.size ≤ ((1 : Int32)).toNatClampNeg) := inb_of S105 ⟨by decide, by decide⟩
  obtain ⟨T105, h105, X105, e105, W105, st105⟩ := stI X102 hx hZ e102 Ar105 (j := (1 : Int32)) hin105 (g := (mkF m 13 #[.val (.ref a1), .val (.int (-1 : Int32)), .val (.int (1 : Int32)), .val (.int (4 : Int32))] [(.int (-1 : Int32)), (.int (1 : Int32)), (.ref a1)])) rfl rfl (hb hby d3_13)
  have fa105 : Arv Z h105 a1 kA .int (4 : Int32) [(.int (-1 : Int32)), (.int (-1 : Int32)), (.int (0 : Int32)), (.int (0 : Int32))] (.int (0 : Int32)) := Arv.set Ar105 q105 S105 M105 H105 G105 rfl W105 1 rfl (Nat.le_of_ble_eq_true rfl)
  have f106 := Nat.le_trans f103 (Keep.of_wr W105).1
  have f107 := f104.wr W105 (Or.inl (List.mem_of_getElem? (i := 0) rfl))
  have N105 := Fr.snoc X105 N102 g1
  refine EndsQ.go st105 ?_
  show EndsQ _ _ _ _ _ _ _ (T105.setTop (mkF m 14 #[.val (.ref a1), .val (.int (-1 : Int32)), .val (.int (1 : Int32)), .val (.int (4 : Int32))] []))
  refine EndsQ.go (b := T105.setTop (mkF m 13 #[.val (.ref a1), .val (.int (-1 : Int32)), .val (.int (2 : Int32)), .val (.int (4 : Int32))] [(.int (-1 : Int32)), (.int (2 : Int32)), (.ref a1)])) (fun t k => ?_) ?_
  · show Steps p.tables e below (T105.setTop (mkF m 14 #[.val (.ref a1), .val (.int (-1 : Int32)), .val (.int (1 : Int32)), .val (.int (4 : Int32))] [])) _
    refine XS.iinc X105.here hx rfl (hb hby d3_14) rfl (l' := #[.val (.ref a1), .val (.int (-1 : Int32)), .val (.int ((1 : Int32) + Int32.ofInt 1)), .val (.int (4 : Int32))]) rfl ?_
    show Steps p.tables e below (T105.setTop (mkF m 17 #[.val (.ref a1), .val (.int (-1 : Int32)), .val (.int ((1 : Int32) + Int32.ofInt 1)), .val (.int (4 : Int32))] [])) _
    rw [(by decide : ((1 : Int32) + Int32.ofInt 1) = (2 : Int32))]
    show Steps p.tables e below (T105.setTop (mkF m 17 #[.val (.ref a1), .val (.int (-1 : Int32)), .val (.int (2 : Int32)), .val (.int (4 : Int32))] [])) _
    refine XS.goto X105.here hx rfl (pc0 := 17) (pc' := 5) rfl (hb hby d3_17) (by decide) (by decide) ?_
    refine XS.iloadN X105.here hx rfl (hb hby d3_5) rfl ?_
    refine XS.iloadN X105.here hx rfl (hb hby d3_6) rfl ?_
    show Steps p.tables e below (T105.setTop (mkF m 7 #[.val (.ref a1), .val (.int (-1 : Int32)), .val (.int (2 : Int32)), .val (.int (4 : Int32))] [(.int (4 : Int32)), (.int (2 : Int32))])) _
    refine XS.icmpNo X105.here hx rfl (hb hby d3_7) rfl (tlt (by decide)).2.1 ?_
    show Steps p.tables e below (T105.setTop (mkF m 10 #[.val (.ref a1), .val (.int (-1 : Int32)), .val (.int (2 : Int32)), .val (.int (4 : Int32))] [])) _
    refine XS.aloadN X105.here hx rfl (hb hby d3_10) rfl rfl ?_
    refine XS.iloadN X105.here hx rfl (hb hby d3_11) rfl ?_
    refine XS.iloadN X105.here hx rfl (hb hby d3_12) rfl ?_
    exact k
  obtain ⟨cl108, Ar108, q108, S108, M108, H108, G108⟩ := id fa105
  have hin108 : ¬ ((2 : Int32) < 0 ∨ cl108.slots.size ≤ ((2 : Int32)).toNatClampNeg) := inb_of S108 ⟨by decide, by decide⟩
  obtain ⟨T108, h108, X108, e108, W108, st108⟩ := stI X105 hx hZ e105 Ar108 (j := (2 : Int32)) hin108 (g := (mkF m 13 #[.val (.ref a1), .val (.int (-1 : Int32)), .val (.int (2 : Int32)), .val (.int (4 : Int32))] [(.int (-1 : Int32)), (.int (2 : Int32)), (.ref a1)])) rfl rfl (hb hby d3_13)
  have fa108 : Arv Z h108 a1 kA .int (4 : Int32) [(.int (-1 : Int32)), (.int (-1 : Int32)), (.int (-1 : Int32)), (.int (0 : Int32))] (.int (0 : Int32)) := Arv.set Ar108 q108 S108 M108 H108 G108 rfl W108 2 rfl (Nat.le_of_ble_eq_true rfl)
  have f109 := Nat.le_trans f106 (Keep.of_wr W108).1
  have f110 := f107.wr W108 (Or.inl (List.mem_of_getElem? (i := 0) rfl))
  have N108 := Fr.snoc X108 N105 g1
  refine EndsQ.go st108 ?_
  show EndsQ _ _ _ _ _ _ _ (T108.setTop (mkF m 14 #[.val (.ref a1), .val (.int (-1 : Int32)), .val (.int (2 : Int32)), .val (.int (4 : Int32))] []))
  refine EndsQ.go (b := T108.setTop (mkF m 13 #[.val (.ref a1), .val (.int (-1 : Int32)), .val (.int (3 : Int32)), .val (.int (4 : Int32))] [(.int (-1 : Int32)), (.int (3 : Int32)), (.ref a1)])) (fun t k => ?_) ?_
  · show Steps p.tables e below (T108.setTop (mkF m 14 #[.val (.ref a1), .val (.int (-1 : Int32)), .val (.int (2 : Int32)), .val (.int (4 : Int32))] [])) _
    refine XS.iinc X108.here hx rfl (hb hby d3_14) rfl (l' := #[.val (.ref a1), .val (.int (-1 : Int32)), .val (.int ((2 : Int32) + Int32.ofInt 1)), .val (.int (4 : Int32))]) rfl ?_
    show Steps p.tables e below (T108.setTop (mkF m 17 #[.val (.ref a1), .val (.int (-1 : Int32)), .val (.int ((2 : Int32) + Int32.ofInt 1)), .val (.int (4 : Int32))] [])) _
    rw [(by decide : ((2 : Int32) + Int32.ofInt 1) = (3 : Int32))]
    show Steps p.tables e below (T108.setTop (mkF m 17 #[.val (.ref a1), .val (.int (-1 : Int32)), .val (.int (3 : Int32)), .val (.int (4 : Int32))] [])) _
    refine XS.goto X108.here hx rfl (pc0 := 17) (pc' := 5) rfl (hb hby d3_17) (by decide) (by decide) ?_
    refine XS.iloadN X108.here hx rfl (hb hby d3_5) rfl ?_
    refine XS.iloadN X108.here hx rfl (hb hby d3_6) rfl ?_
    refine XS.icmpNo X108.here hx rfl (hb hby d3_7) rfl (tlt (by decide)).2.1 ?_
    show Steps p.tables e below (T108.setTop (mkF m 10 #[.val (.ref a1), .val (.int (-1 : Int32)), .val (.int (3 : Int32)), .val (.int (4 : Int32))] [])) _
    refine XS.aloadN X108.here hx rfl (hb hby d3_10) rfl rfl ?_
    show Steps p.tables e below (T108.setTop (mkF m 11 #[.val (.ref a1), .val (.int (-1 : Int32)), .val (.int (3 : Int32)), .val (.int (4 : Int32))] [(.ref a1)])) _
    refine XS.iloadN X108.here hx rfl (hb hby d3_11) rfl ?_
    refine XS.iloadN X108.here hx rfl (hb hby d3_12) rfl ?_
    exact k
  obtain ⟨cl111, Ar111, q111, S111, M111, H111, G111⟩ := id fa108
  have hin111 : ¬ ((3 : Int32) < 0 ∨ cl111.slots.size ≤ ((3 : Int32)).toNatClampNeg) := inb_of S111 ⟨by decide, by decide⟩
  obtain ⟨T111, h111, X111, e111, W111, st111⟩ := stI X108 hx hZ e108 Ar111 (j := (3 : Int32)) hin111 (g := (mkF m 13 #[.val (.ref a1), .val (.int (-1 : Int32)), .val (.int (3 : Int32)), .val (.int (4 : Int32))] [(.int (-1 : Int32)), (.int (3 : Int32)), (.ref a1)])) rfl rfl (hb hby d3_13)
  have fa111 : Arv Z h111 a1 kA .int (4 : Int32) [(.int (-1 : Int32)), (.int (-1 : Int32)), (.int (-1 : Int32)), (.int (-1 : Int32))] (.int (0 : Int32)) := Arv.set Ar111 q111 S111 M111 H111 G111 rfl W111 3 rfl (Nat.le_of_ble_eq_true rfl)
  have f112 := Nat.le_trans f109 (Keep.of_wr W111).1
  have f113 := f110.wr W111 (Or.inl (List.mem_of_getElem? (i := 0) rfl))
  have N111 := Fr.snoc X111 N108 g1
  refine EndsQ.go st111 ?_
  show EndsQ _ _ _ _ _ _ _ (T111.setTop (mkF m 14 #[.val (.ref a1), .val (.int (-1 : Int32)), .val (.int (3 : Int32)), .val (.int (4 : Int32))] []))
  refine EndsQ.go (b := T111.setTop (mkF m 20 #[.val (.ref a1), .val (.int (-1 : Int32)), .val (.int (4 : Int32)), .val (.int (4 : Int32))] [])) (fun t k => ?_) ?_
  · show Steps p.tables e below (T111.setTop (mkF m 14 #[.val (.ref a1), .val (.int (-1 : Int32)), .val (.int (3 : Int32)), .val (.int (4 : Int32))] [])) _
    refine XS.iinc X111.here hx rfl (hb hby d3_14) rfl (l' := #[.val (.ref a1), .val (.int (-1 : Int32)), .val (.int ((3 : Int32) + Int32.ofInt 1)), .val (.int (4 : Int32))]) rfl ?_
    show Steps p.tables e below (T111.setTop (mkF m 17 #[.val (.ref a1), .val (.int (-1 : Int32)), .val (.int ((3 : Int32) + Int32.ofInt 1)), .val (.int (4 : Int32))] [])) _
    rw [(by decide : ((3 : Int32) + Int32.ofInt 1) = (4 : Int32))]
    show Steps p.tables e below (T111.setTop (mkF m 17 #[.val (.ref a1), .val (.int (-1 : Int32)), .val (.int (4 : Int32)), .val (.int (4 : Int32))] [])) _
    refine XS.goto X111.here hx rfl (pc0 := 17) (pc' := 5) rfl (hb hby d3_17) (by decide) (by decide) ?_
    show Steps p.tables e below (T111.setTop (mkF m 5 #[.val (.ref a1), .val (.int (-1 : Int32)), .val (.int (4 : Int32)), .val (.int (4 : Int32))] [])) _
    refine XS.iloadN X111.here hx rfl (hb hby d3_5) rfl ?_
    refine XS.iloadN X111.here hx rfl (hb hby d3_6) rfl ?_
    refine XS.icmpYes X111.here hx rfl (pc0 := 7) (pc' := 20) rfl (hb hby d3_7) rfl (flt (by decide)).2.1 (by decide) (by decide) ?_
    show Steps p.tables e below (T111.setTop (mkF m 20 #[.val (.ref a1), .val (.int (-1 : Int32)), .val (.int (4 : Int32)), .val (.int (4 : Int32))] [])) _
    exact k
  refine EndsQ.retV X111 hx Bd.notSynchronized Bd.returns (hb hby d3_20) (by decide) (by decide) ?_
  show QFill Z a1 kA h0 n0 (none) T111.heap _
  rw [e111]
  exact ⟨rfl, N111, f113, fa111⟩
theorem ef_Max (m : MethodId) (x0 : Int32) (x1 : Int32) : entryFrame m #[(.int x0), (.int x1)] 2 = mkF m 0 #[.val (.int x0), .val (.int x1)] [] := by first | (simp [entryFrame, mkF, argsToLocals, Value.category]; done) | rfl
def QMax (Z : State) (p1 : Int32) (p2 : Int32) (h0 : Heap) (n0 : Nat) (v : Option Value) (h : Heap) (L : List Loc) : Prop := v = some (.int (own_max p1 p2)) ∧ Fr n0 L ∧ h = h0
set_option maxRecDepth 65536 in
set_option maxHeartbeats 40000000 in
theorem rmMax (l : Launch) (Z : State) (a0 : Array Value) (hw : ∀ d ∈ tables_1, d.before a0 Z = true) (ws : List Jvm.Cond) (p1 : Int32) (p2 : Int32) (h0 : Heap) (n0 : Nat) (Z0 : n0 ≤ h0.size) :
    MetFree l (⟨"java/lang/Math", "max", "(II)I"⟩ : MethodName) (head1 (Jvm.Cond.code (⟨"java/lang/Math", "max", "(II)I"⟩ : MethodName) jdk_29_method_65_code 2 (some .int) :: ws) ({ frames := 0, cells := 0, slots := 0, locals := 0 } : Room)) (fun a U => a = #[(.int p1), (.int p2)] ∧ Z.Warmed39 U.vm ∧ U.heap = h0) (fun _ _ _ _ _ => True) (fun _ U o U' => ∃ v L, o = .returned v ∧ QMax Z p1 p2 h0 n0 v U'.heap L ∧ FrameEnd U o U' L ({ frames := 0, cells := 0, slots := 0, locals := 0 } : Room).cells ({ frames := 0, cells := 0, slots := 0, locals := 0 } : Room).slots) := by
  refine MetFree.of_bodySF (Jvm.Free.JP.mathPlain rfl (by decide +kernel)) hisR ?_
  intro p e s m args below meth c s₁ Bd hml0 hP hK
  obtain ⟨rfl, hZ, hh⟩ := hP
  have hx := Bd.exec
  have hby := Bd.bytes
  have hml : c.maxLocals = 2 := hml0
  have hown : s.vm.findClass "java/lang/Math" = some m.cls := findClass_of_methodNamed Bd.named
  have hnm := (name_of_methodNamed Bd.named Bd.method).1
  have X0 : Stand p l e ({ frames := 0, cells := 0, slots := 0, locals := 0 } : Room) s m #[(.int p1), (.int p2)] below meth c s₁ [] 0 0 := Stand.of_body Bd
  have e0 : s₁.heap = h0 := by rw [← hh, Bd.state]; rfl
  have N0 := Fr.nil n0
  show EndsQ p.tables e below s (fun v h L => QMax Z p1 p2 h0 n0 v h L) ({ frames := 0, cells := 0, slots := 0, locals := 0 } : Room).cells ({ frames := 0, cells := 0, slots := 0, locals := 0 } : Room).slots _
  refine EndsQ.go (b := s₁.setTop (mkF m 0 #[.val (.int p1), .val (.int p2)] [])) (fun t k => castTop (ef_Max m p1 p2) k) ?_
  refine EndsQ.go (b := s₁.setTop (mkF m 2 #[.val (.int p1), .val (.int p2)] [(.int p2), (.int p1)])) (fun t k => ?_) ?_
  · show Steps p.tables e below (s₁.setTop (mkF m 0 #[.val (.int p1), .val (.int p2)] [])) _
    refine XS.iloadN X0.here hx rfl (hb hby d13_0) rfl ?_
    refine XS.iloadN X0.here hx rfl (hb hby d13_1) rfl ?_
    exact k
  by_cases hc2_101 : p1 < p2
  · refine EndsQ.go (b := s₁.setTop (mkF m 9 #[.val (.int p1), .val (.int p2)] [])) (fun t k => ?_) ?_
    · show Steps p.tables e below (s₁.setTop (mkF m 2 #[.val (.int p1), .val (.int p2)] [(.int p2), (.int p1)])) _
      refine XS.icmpYes X0.here hx rfl (pc0 := 2) (pc' := 9) rfl (hb hby d13_2) rfl (tlt hc2_101).1 (by decide) (by decide) ?_
      show Steps p.tables e below (s₁.setTop (mkF m 9 #[.val (.int p1), .val (.int p2)] [])) _
      exact k
    refine EndsQ.go (b := s₁.setTop (mkF m 10 #[.val (.int p1), .val (.int p2)] [(.int p2)])) (fun t k => ?_) ?_
    · show Steps p.tables e below (s₁.setTop (mkF m 9 #[.val (.int p1), .val (.int p2)] [])) _
      refine XS.iloadN X0.here hx rfl (hb hby d13_9) rfl ?_
      exact k
    refine EndsQ.retI X0 hx Bd.notSynchronized Bd.returns (hb hby d13_10) (by decide) (by decide) ?_
    show QMax Z p1 p2 h0 n0 (some (.int p2)) s₁.heap _
    rw [e0]
    exact ⟨by unfold own_max; rw [if_pos hc2_101], N0, rfl⟩
  · refine EndsQ.go (b := s₁.setTop (mkF m 5 #[.val (.int p1), .val (.int p2)] [])) (fun t k => ?_) ?_
    · show Steps p.tables e below (s₁.setTop (mkF m 2 #[.val (.int p1), .val (.int p2)] [(.int p2), (.int p1)])) _
      refine XS.icmpNo X0.here hx rfl (hb hby d13_2) rfl (flt hc2_101).1 ?_
      show Steps p.tables e below (s₁.setTop (mkF m 5 #[.val (.int p1), .val (.int p2)] [])) _
      exact k
    refine EndsQ.go (b := s₁.setTop (mkF m 10 #[.val (.int p1), .val (.int p2)] [(.int p1)])) (fun t k => ?_) ?_
    · show Steps p.tables e below (s₁.setTop (mkF m 5 #[.val (.int p1), .val (.int p2)] [])) _
      refine XS.iloadN X0.here hx rfl (hb hby d13_5) rfl ?_
      show Steps p.tables e below (s₁.setTop (mkF m 6 #[.val (.int p1), .val (.int p2)] [(.int p1)])) _
      refine XS.goto X0.here hx rfl (pc0 := 6) (pc' := 10) rfl (hb hby d13_6) (by decide) (by decide) ?_
      exact k
    refine EndsQ.retI X0 hx Bd.notSynchronized Bd.returns (hb hby d13_10) (by decide) (by decide) ?_
    show QMax Z p1 p2 h0 n0 (some (.int p1)) s₁.heap _
    rw [e0]
    exact ⟨by unfold own_max; rw [if_neg hc2_101], N0, rfl⟩
theorem ef_Init (m : MethodId) (x0 : Addr) (x1 : Int32) : entryFrame m #[(.ref x0), (.int x1)] 2 = mkF m 0 #[.val (.ref x0), .val (.int x1)] [] := by first | (simp [entryFrame, mkF, argsToLocals, Value.category]; done) | rfl
def QInit (Z : State) (a1 : Addr) (h0 : Heap) (n0 : Nat) (v : Option Value) (h : Heap) (L : List Loc) : Prop := ∃ (oo : Nat → Addr) (kk : Nat → ClassId), v = none ∧ oo 0 = a1 ∧ Fr n0 L ∧ n0 ≤ h.size ∧ own_ne oo ∧ own_nn n0 oo ∧ own_St Z h oo kk (0 : Int32) (0 : Int32) [(.int (0 : Int32)), (.int (0 : Int32)), (.int (0 : Int32))] [(.int (0 : Int32)), (.int (0 : Int32)), (.int (0 : Int32))] [(.double (0 : UInt64)), (.double (0 : UInt64)), (.double (0 : UInt64))] [(.int (0 : Int32)), (.int (0 : Int32)), (.int (0 : Int32))] [(.double (0 : UInt64)), (.double (0 : UInt64)), (.double (0 : UInt64))] [(.int (0 : Int32)), (.int (0 : Int32)), (.int (0 : Int32))] own_L0
set_option maxRecDepth 65536 in
set_option maxHeartbeats 40000000 in
theorem rmInit (l : Launch) (Z : State) (a0 : Array Value) (hw : ∀ d ∈ tables_1, d.before a0 Z = true) (ws : List Jvm.Cond) (a1 : Addr) (h0 : Heap) (n0 : Nat) (Z0 : n0 ≤ h0.size) (F_candidates : Fld Z h0 a1 "com/example/physarum/physarum/Proposals" "candidates" "[I" .null) (F_proposed : Fld Z h0 a1 "com/example/physarum/physarum/Proposals" "proposed" "[I" .null) (F_confidences : Fld Z h0 a1 "com/example/physarum/physarum/Proposals" "confidences" "[D" .null) (F_starts : Fld Z h0 a1 "com/example/physarum/physarum/Proposals" "starts" "[I" .null) (F_arranged : Fld Z h0 a1 "com/example/physarum/physarum/Proposals" "arranged" "[D" .null) (F_taken : Fld Z h0 a1 "com/example/physarum/physarum/Proposals" "taken" "[I" .null) (F_indices : Fld Z h0 a1 "com/example/physarum/physarum/Proposals" "indices" "[I" .null) (F_candidateCount : Fld Z h0 a1 "com/example/physarum/physarum/Proposals" "candidateCount" "I" (.int (0 : Int32))) (F_size : Fld Z h0 a1 "com/example/physarum/physarum/Proposals" "size" "I" (.int (0 : Int32))) (E1 : Exa Z h0 a1 "com/example/physarum/physarum/Proposals") (g1 : n0 ≤ a1) :
    MetFree l (⟨"com/example/physarum/physarum/Proposals", "<init>", "(I)V"⟩ : MethodName) (head1 (Jvm.Cond.code (⟨"com/example/physarum/physarum/Proposals", "<init>", "(I)V"⟩ : MethodName) prog_44_method_1_code 2 none :: ws) ({ frames := 1, cells := 7, slots := 245, locals := 40 } : Room)) (fun a U => a = #[(.ref a1), (.int (4 : Int32))] ∧ Z.Warmed39 U.vm ∧ U.heap = h0) (fun _ _ _ _ _ => True) (fun _ U o U' => ∃ v L, o = .returned v ∧ QInit Z a1 h0 n0 v U'.heap L ∧ FrameEnd U o U' L ({ frames := 1, cells := 7, slots := 245, locals := 40 } : Room).cells ({ frames := 1, cells := 7, slots := 245, locals := 40 } : Room).slots) := by
  refine MetFree.of_bodySF (plainFor_of_name pn_1) hisR ?_
  intro p e s m args below meth c s₁ Bd hml0 hP hK
  obtain ⟨rfl, hZ, hh⟩ := hP
  have hx := Bd.exec
  have hby := Bd.bytes
  have hml : c.maxLocals = 2 := hml0
  have hown : s.vm.findClass "com/example/physarum/physarum/Proposals" = some m.cls := findClass_of_methodNamed Bd.named
  have hnm := (name_of_methodNamed Bd.named Bd.method).1
  have X0 : Stand p l e ({ frames := 1, cells := 7, slots := 245, locals := 40 } : Room) s m #[(.ref a1), (.int (4 : Int32))] below meth c s₁ [] 0 0 := Stand.of_body Bd
  have e0 : s₁.heap = h0 := by rw [← hh, Bd.state]; rfl
  have N0 := Fr.nil n0
  show EndsQ p.tables e below s (fun v h L => QInit Z a1 h0 n0 v h L) ({ frames := 1, cells := 7, slots := 245, locals := 40 } : Room).cells ({ frames := 1, cells := 7, slots := 245, locals := 40 } : Room).slots _
  refine EndsQ.go (b := s₁.setTop (mkF m 0 #[.val (.ref a1), .val (.int (4 : Int32))] [])) (fun t k => castTop (ef_Init m a1 (4 : Int32)) k) ?_
  refine EndsQ.go (b := s₁.setTop (mkF m 1 #[.val (.ref a1), .val (.int (4 : Int32))] [(.ref a1)])) (fun t k => ?_) ?_
  · show Steps p.tables e below (s₁.setTop (mkF m 0 #[.val (.ref a1), .val (.int (4 : Int32))] [])) _
    refine XS.aloadN X0.here hx rfl (hb hby d1_0) rfl rfl ?_
    exact k
  obtain ⟨T101, X101, e101, st101⟩ := initO X0 hx hZ hown (hw _ (List.mem_of_getElem? (i := 6) rfl)) (hw _ (List.mem_of_getElem? (i := 7) rfl)) (hw _ (List.mem_of_getElem? (i := 8) rfl)) e0 (g := (mkF m 1 #[.val (.ref a1), .val (.int (4 : Int32))] [(.ref a1)])) rfl (by rw [hml]; rfl) rfl (hb hby d1_1) (by decide) (W := 0) (by show 2 * 0 + _ ≤ _; exact Nat.le_of_eq rfl) (by decide)
  refine EndsQ.go st101 ?_
  show EndsQ _ _ _ _ _ _ _ (T101.setTop (mkF m 4 #[.val (.ref a1), .val (.int (4 : Int32))] []))
  refine EndsQ.go (b := T101.setTop (mkF m 7 #[.val (.ref a1), .val (.int (4 : Int32))] [(.int (16 : Int32)), (.ref a1)])) (fun t k => ?_) ?_
  · show Steps p.tables e below (T101.setTop (mkF m 4 #[.val (.ref a1), .val (.int (4 : Int32))] [])) _
    refine XS.aloadN X101.here hx rfl (hb hby d1_4) rfl rfl ?_
    refine XS.bipush X101.here hx rfl (hb hby d1_5) ?_
    exact k
  obtain ⟨T102, h102, k102, X102, e102, E102, A102, st102⟩ := newP X101 hx hZ (hw _ (List.mem_of_getElem? (i := 9) rfl)) e101 (g := (mkF m 7 #[.val (.ref a1), .val (.int (4 : Int32))] [(.int (16 : Int32)), (.ref a1)])) rfl (hb hby d1_7) rfl (by decide) (cap := 16) (by decide) (by decide) (by decide) (by decide)
  obtain ⟨b102, g102⟩ : ∃ z, z = h0.size := ⟨_, rfl⟩
  rw [← g102] at A102 st102
  have gn102 : n0 ≤ b102 := Nat.le_trans Z0 (Nat.le_of_eq g102.symm)
  have ne102_a1 : a1 ≠ b102 := Nat.ne_of_lt (Nat.lt_of_lt_of_le E1.lt (Nat.le_of_eq g102.symm))
  have f103 := E1.ext E102
  have f104 := F_candidates.ext E102
  have f105 := F_proposed.ext E102
  have f106 := F_confidences.ext E102
  have f107 := F_starts.ext E102
  have f108 := F_arranged.ext E102
  have f109 := F_taken.ext E102
  have f110 := F_indices.ext E102
  have f111 := F_candidateCount.ext E102
  have f112 := F_size.ext E102
  have f113 := Nat.le_trans Z0 E102.1
  have f114 : Arv Z h102 b102 k102 .int (16 : Int32) [(.int (0 : Int32)), (.int (0 : Int32)), (.int (0 : Int32))] (.int (0 : Int32)) := (Arv.new A102 (by decide)).pad (pad_rep [] (.int (0 : Int32)) 3)
  refine EndsQ.go st102 ?_
  show EndsQ _ _ _ _ _ _ _ (T102.setTop (mkF m 9 #[.val (.ref a1), .val (.int (4 : Int32))] [(.ref b102), (.ref a1)]))
  obtain ⟨T115, h115, X115, e115, W115, st115⟩ := putF X102 hx hZ hown (host := "") (Or.inl (hw _ (List.mem_of_getElem? (i := 10) rfl))) Via.refl e102 f104 f103 (Or.inl (hw _ (List.mem_of_getElem? (i := 11) rfl))) (hw _ (List.mem_of_getElem? (i := 1) rfl)) (ty := (.array .int)) (by decide) rfl rfl (g := (mkF m 9 #[.val (.ref a1), .val (.int (4 : Int32))] [(.ref b102), (.ref a1)])) rfl rfl (hb hby d1_9)
  have fw115 : Fld Z h115 a1 "com/example/physarum/physarum/Proposals" "candidates" "[I" (.ref b102) := f104.same W115
  have f116 := f103.wr W115
  have f117 := f105.other W115 (Or.inr (slot_ne (Or.inl (hw _ (List.mem_of_getElem? (i := 13) rfl))) (Or.inl (hw _ (List.mem_of_getElem? (i := 11) rfl))) (by decide) (t := (.array .int)) (t' := (.array .int)) (by decide) (by decide)))
  have f118 := f106.other W115 (Or.inr (slot_ne (Or.inl (hw _ (List.mem_of_getElem? (i := 16) rfl))) (Or.inl (hw _ (List.mem_of_getElem? (i := 11) rfl))) (by decide) (t := (.array .double)) (t' := (.array .int)) (by decide) (by decide)))
  have f119 := f107.other W115 (Or.inr (slot_ne (Or.inl (hw _ (List.mem_of_getElem? (i := 18) rfl))) (Or.inl (hw _ (List.mem_of_getElem? (i := 11) rfl))) (by decide) (t := (.array .int)) (t' := (.array .int)) (by decide) (by decide)))
  have f120 := f108.other W115 (Or.inr (slot_ne (Or.inl (hw _ (List.mem_of_getElem? (i := 20) rfl))) (Or.inl (hw _ (List.mem_of_getElem? (i := 11) rfl))) (by decide) (t := (.array .double)) (t' := (.array .int)) (by decide) (by decide)))
  have f121 := f109.other W115 (Or.inr (slot_ne (Or.inl (hw _ (List.mem_of_getElem? (i := 22) rfl))) (Or.inl (hw _ (List.mem_of_getElem? (i := 11) rfl))) (by decide) (t := (.array .int)) (t' := (.array .int)) (by decide) (by decide)))
  have f122 := f110.other W115 (Or.inr (slot_ne (Or.inr (hw _ (List.mem_of_getElem? (i := 24) rfl))) (Or.inl (hw _ (List.mem_of_getElem? (i := 11) rfl))) (by decide) (t := (.array .int)) (t' := (.array .int)) (by decide) (by decide)))
  have f123 := f111.other W115 (Or.inr (slot_ne (Or.inl (hw _ (List.mem_of_getElem? (i := 38) rfl))) (Or.inl (hw _ (List.mem_of_getElem? (i := 11) rfl))) (by decide) (t := .int) (t' := (.array .int)) (by decide) (by decide)))
  have f124 := f112.other W115 (Or.inr (slot_ne (Or.inl (hw _ (List.mem_of_getElem? (i := 36) rfl))) (Or.inl (hw _ (List.mem_of_getElem? (i := 11) rfl))) (by decide) (t := .int) (t' := (.array .int)) (by decide) (by decide)))
  have f125 := Nat.le_trans f113 (Keep.of_wr W115).1
  have f126 := f114.other W115 (Ne.symm ne102_a1)
  have N115 := Fr.snoc X115 N0 g1
  refine EndsQ.go st115 ?_
  show EndsQ _ _ _ _ _ _ _ (T115.setTop (mkF m 12 #[.val (.ref a1), .val (.int (4 : Int32))] []))
  refine EndsQ.go (b := T115.setTop (mkF m 15 #[.val (.ref a1), .val (.int (4 : Int32))] [(.int (64 : Int32)), (.ref a1)])) (fun t k => ?_) ?_
  · show Steps p.tables e below (T115.setTop (mkF m 12 #[.val (.ref a1), .val (.int (4 : Int32))] [])) _
    refine XS.aloadN X115.here hx rfl (hb hby d1_12) rfl rfl ?_
    show Steps p.tables e below (T115.setTop (mkF m 13 #[.val (.ref a1), .val (.int (4 : Int32))] [(.ref a1)])) _
    refine XS.bipush X115.here hx rfl (hb hby d1_13) ?_
    exact k
  obtain ⟨T127, h127, k127, X127, e127, E127, A127, st127⟩ := newP X115 hx hZ (hw _ (List.mem_of_getElem? (i := 9) rfl)) e115 (g := (mkF m 15 #[.val (.ref a1), .val (.int (4 : Int32))] [(.int (64 : Int32)), (.ref a1)])) rfl (hb hby d1_15) rfl (by decide) (cap := 64) (by decide) (by decide) (by decide) (by decide)
  obtain ⟨b127, g127⟩ : ∃ z, z = h115.size := ⟨_, rfl⟩
  rw [← g127] at A127 st127
  have gn127 : n0 ≤ b127 := Nat.le_trans f125 (Nat.le_of_eq g127.symm)
  have ne127_a1 : a1 ≠ b127 := Nat.ne_of_lt (Nat.lt_of_lt_of_le f116.lt (Nat.le_of_eq g127.symm))
  have ne127_b102 : b102 ≠ b127 := Nat.ne_of_lt (Nat.lt_of_lt_of_le f126.lt (Nat.le_of_eq g127.symm))
  have f128 := f116.ext E127
  have f129 := f117.ext E127
  have f130 := f118.ext E127
  have f131 := f119.ext E127
  have f132 := f120.ext E127
  have f133 := f121.ext E127
  have f134 := f122.ext E127
  have f135 := f123.ext E127
  have f136 := f124.ext E127
  have f137 := Nat.le_trans f125 E127.1
  have f138 := f126.ext E127
  have f139 := fw115.ext E127
  have f140 : Arv Z h127 b127 k127 .int (64 : Int32) [(.int (0 : Int32)), (.int (0 : Int32)), (.int (0 : Int32))] (.int (0 : Int32)) := (Arv.new A127 (by decide)).pad (pad_rep [] (.int (0 : Int32)) 3)
  refine EndsQ.go st127 ?_
  show EndsQ _ _ _ _ _ _ _ (T127.setTop (mkF m 17 #[.val (.ref a1), .val (.int (4 : Int32))] [(.ref b127), (.ref a1)]))
  obtain ⟨T141, h141, X141, e141, W141, st141⟩ := putF X127 hx hZ hown (host := "") (Or.inl (hw _ (List.mem_of_getElem? (i := 12) rfl))) Via.refl e127 f129 f128 (Or.inl (hw _ (List.mem_of_getElem? (i := 13) rfl))) (hw _ (List.mem_of_getElem? (i := 1) rfl)) (ty := (.array .int)) (by decide) rfl rfl (g := (mkF m 17 #[.val (.ref a1), .val (.int (4 : Int32))] [(.ref b127), (.ref a1)])) rfl rfl (hb hby d1_17)
  have fw141 : Fld Z h141 a1 "com/example/physarum/physarum/Proposals" "proposed" "[I" (.ref b127) := f129.same W141
  have f142 := f128.wr W141
  have f143 := f130.other W141 (Or.inr (slot_ne (Or.inl (hw _ (List.mem_of_getElem? (i := 16) rfl))) (Or.inl (hw _ (List.mem_of_getElem? (i := 13) rfl))) (by decide) (t := (.array .double)) (t' := (.array .int)) (by decide) (by decide)))
  have f144 := f131.other W141 (Or.inr (slot_ne (Or.inl (hw _ (List.mem_of_getElem? (i := 18) rfl))) (Or.inl (hw _ (List.mem_of_getElem? (i := 13) rfl))) (by decide) (t := (.array .int)) (t' := (.array .int)) (by decide) (by decide)))
  have f145 := f132.other W141 (Or.inr (slot_ne (Or.inl (hw _ (List.mem_of_getElem? (i := 20) rfl))) (Or.inl (hw _ (List.mem_of_getElem? (i := 13) rfl))) (by decide) (t := (.array .double)) (t' := (.array .int)) (by decide) (by decide)))
  have f146 := f133.other W141 (Or.inr (slot_ne (Or.inl (hw _ (List.mem_of_getElem? (i := 22) rfl))) (Or.inl (hw _ (List.mem_of_getElem? (i := 13) rfl))) (by decide) (t := (.array .int)) (t' := (.array .int)) (by decide) (by decide)))
  have f147 := f134.other W141 (Or.inr (slot_ne (Or.inr (hw _ (List.mem_of_getElem? (i := 24) rfl))) (Or.inl (hw _ (List.mem_of_getElem? (i := 13) rfl))) (by decide) (t := (.array .int)) (t' := (.array .int)) (by decide) (by decide)))
  have f148 := f135.other W141 (Or.inr (slot_ne (Or.inl (hw _ (List.mem_of_getElem? (i := 38) rfl))) (Or.inl (hw _ (List.mem_of_getElem? (i := 13) rfl))) (by decide) (t := .int) (t' := (.array .int)) (by decide) (by decide)))
  have f149 := f136.other W141 (Or.inr (slot_ne (Or.inl (hw _ (List.mem_of_getElem? (i := 36) rfl))) (Or.inl (hw _ (List.mem_of_getElem? (i := 13) rfl))) (by decide) (t := .int) (t' := (.array .int)) (by decide) (by decide)))
  have f150 := Nat.le_trans f137 (Keep.of_wr W141).1
  have f151 := f138.other W141 (Ne.symm ne102_a1)
  have f152 := f139.other W141 (Or.inr (slot_ne (Or.inl (hw _ (List.mem_of_getElem? (i := 11) rfl))) (Or.inl (hw _ (List.mem_of_getElem? (i := 13) rfl))) (by decide) (t := (.array .int)) (t' := (.array .int)) (by decide) (by decide)))
  have f153 := f140.other W141 (Ne.symm ne127_a1)
  have N141 := Fr.snoc X141 N115 g1
  refine EndsQ.go st141 ?_
  show EndsQ _ _ _ _ _ _ _ (T141.setTop (mkF m 20 #[.val (.ref a1), .val (.int (4 : Int32))] []))
  refine EndsQ.go (b := T141.setTop (mkF m 23 #[.val (.ref a1), .val (.int (4 : Int32))] [(.int (64 : Int32)), (.ref a1)])) (fun t k => ?_) ?_
  · show Steps p.tables e below (T141.setTop (mkF m 20 #[.val (.ref a1), .val (.int (4 : Int32))] [])) _
    refine XS.aloadN X141.here hx rfl (hb hby d1_20) rfl rfl ?_
    refine XS.bipush X141.here hx rfl (hb hby d1_21) ?_
    exact k
  obtain ⟨T154, h154, k154, X154, e154, E154, A154, st154⟩ := newP X141 hx hZ (hw _ (List.mem_of_getElem? (i := 14) rfl)) e141 (g := (mkF m 23 #[.val (.ref a1), .val (.int (4 : Int32))] [(.int (64 : Int32)), (.ref a1)])) rfl (hb hby d1_23) rfl (by decide) (cap := 64) (by decide) (by decide) (by decide) (by decide)
  obtain ⟨b154, g154⟩ : ∃ z, z = h141.size := ⟨_, rfl⟩
  rw [← g154] at A154 st154
  have gn154 : n0 ≤ b154 := Nat.le_trans f150 (Nat.le_of_eq g154.symm)
  have ne154_a1 : a1 ≠ b154 := Nat.ne_of_lt (Nat.lt_of_lt_of_le f142.lt (Nat.le_of_eq g154.symm))
  have ne154_b102 : b102 ≠ b154 := Nat.ne_of_lt (Nat.lt_of_lt_of_le f151.lt (Nat.le_of_eq g154.symm))
  have ne154_b127 : b127 ≠ b154 := Nat.ne_of_lt (Nat.lt_of_lt_of_le f153.lt (Nat.le_of_eq g154.symm))
  have f155 := f142.ext E154
  have f156 := f143.ext E154
  have f157 := f144.ext E154
  have f158 := f145.ext E154
  have f159 := f146.ext E154
  have f160 := f147.ext E154
  have f161 := f148.ext E154
  have f162 := f149.ext E154
  have f163 := Nat.le_trans f150 E154.1
  have f164 := f151.ext E154
  have f165 := f152.ext E154
  have f166 := f153.ext E154
  have f167 := fw141.ext E154
  have f168 : Arv Z h154 b154 k154 .double (64 : Int32) [(.double (0 : UInt64)), (.double (0 : UInt64)), (.double (0 : UInt64))] (.double (0 : UInt64)) := (Arv.new A154 (by decide)).pad (pad_rep [] (.double (0 : UInt64)) 3)
  refine EndsQ.go st154 ?_
  show EndsQ _ _ _ _ _ _ _ (T154.setTop (mkF m 25 #[.val (.ref a1), .val (.int (4 : Int32))] [(.ref b154), (.ref a1)]))
  obtain ⟨T169, h169, X169, e169, W169, st169⟩ := putF X154 hx hZ hown (host := "") (Or.inl (hw _ (List.mem_of_getElem? (i := 15) rfl))) Via.refl e154 f156 f155 (Or.inl (hw _ (List.mem_of_getElem? (i := 16) rfl))) (hw _ (List.mem_of_getElem? (i := 1) rfl)) (ty := (.array .double)) (by decide) rfl rfl (g := (mkF m 25 #[.val (.ref a1), .val (.int (4 : Int32))] [(.ref b154), (.ref a1)])) rfl rfl (hb hby d1_25)
  have fw169 : Fld Z h169 a1 "com/example/physarum/physarum/Proposals" "confidences" "[D" (.ref b154) := f156.same W169
  have f170 := f155.wr W169
  have f171 := f157.other W169 (Or.inr (slot_ne (Or.inl (hw _ (List.mem_of_getElem? (i := 18) rfl))) (Or.inl (hw _ (List.mem_of_getElem? (i := 16) rfl))) (by decide) (t := (.array .int)) (t' := (.array .double)) (by decide) (by decide)))
  have f172 := f158.other W169 (Or.inr (slot_ne (Or.inl (hw _ (List.mem_of_getElem? (i := 20) rfl))) (Or.inl (hw _ (List.mem_of_getElem? (i := 16) rfl))) (by decide) (t := (.array .double)) (t' := (.array .double)) (by decide) (by decide)))
  have f173 := f159.other W169 (Or.inr (slot_ne (Or.inl (hw _ (List.mem_of_getElem? (i := 22) rfl))) (Or.inl (hw _ (List.mem_of_getElem? (i := 16) rfl))) (by decide) (t := (.array .int)) (t' := (.array .double)) (by decide) (by decide)))
  have f174 := f160.other W169 (Or.inr (slot_ne (Or.inr (hw _ (List.mem_of_getElem? (i := 24) rfl))) (Or.inl (hw _ (List.mem_of_getElem? (i := 16) rfl))) (by decide) (t := (.array .int)) (t' := (.array .double)) (by decide) (by decide)))
  have f175 := f161.other W169 (Or.inr (slot_ne (Or.inl (hw _ (List.mem_of_getElem? (i := 38) rfl))) (Or.inl (hw _ (List.mem_of_getElem? (i := 16) rfl))) (by decide) (t := .int) (t' := (.array .double)) (by decide) (by decide)))
  have f176 := f162.other W169 (Or.inr (slot_ne (Or.inl (hw _ (List.mem_of_getElem? (i := 36) rfl))) (Or.inl (hw _ (List.mem_of_getElem? (i := 16) rfl))) (by decide) (t := .int) (t' := (.array .double)) (by decide) (by decide)))
  have f177 := Nat.le_trans f163 (Keep.of_wr W169).1
  have f178 := f164.other W169 (Ne.symm ne102_a1)
  have f179 := f165.other W169 (Or.inr (slot_ne (Or.inl (hw _ (List.mem_of_getElem? (i := 11) rfl))) (Or.inl (hw _ (List.mem_of_getElem? (i := 16) rfl))) (by decide) (t := (.array .int)) (t' := (.array .double)) (by decide) (by decide)))
  have f180 := f166.other W169 (Ne.symm ne127_a1)
  have f181 := f167.other W169 (Or.inr (slot_ne (Or.inl (hw _ (List.mem_of_getElem? (i := 13) rfl))) (Or.inl (hw _ (List.mem_of_getElem? (i := 16) rfl))) (by decide) (t := (.array .int)) (t' := (.array .double)) (by decide) (by decide)))
  have f182 := f168.other W169 (Ne.symm ne154_a1)
  have N169 := Fr.snoc X169 N141 g1
  refine EndsQ.go st169 ?_
  show EndsQ _ _ _ _ _ _ _ (T169.setTop (mkF m 28 #[.val (.ref a1), .val (.int (4 : Int32))] []))
  refine EndsQ.go (b := T169.setTop (mkF m 31 #[.val (.ref a1), .val (.int (4 : Int32))] [(.int (17 : Int32)), (.ref a1)])) (fun t k => ?_) ?_
  · show Steps p.tables e below (T169.setTop (mkF m 28 #[.val (.ref a1), .val (.int (4 : Int32))] [])) _
    refine XS.aloadN X169.here hx rfl (hb hby d1_28) rfl rfl ?_
    show Steps p.tables e below (T169.setTop (mkF m 29 #[.val (.ref a1), .val (.int (4 : Int32))] [(.ref a1)])) _
    refine XS.bipush X169.here hx rfl (hb hby d1_29) ?_
    exact k
  obtain ⟨T183, h183, k183, X183, e183, E183, A183, st183⟩ := newP X169 hx hZ (hw _ (List.mem_of_getElem? (i := 9) rfl)) e169 (g := (mkF m 31 #[.val (.ref a1), .val (.int (4 : Int32))] [(.int (17 : Int32)), (.ref a1)])) rfl (hb hby d1_31) rfl (by decide) (cap := 17) (by decide) (by decide) (by decide) (by decide)
  obtain ⟨b183, g183⟩ : ∃ z, z = h169.size := ⟨_, rfl⟩
  rw [← g183] at A183 st183
  have gn183 : n0 ≤ b183 := Nat.le_trans f177 (Nat.le_of_eq g183.symm)
  have ne183_a1 : a1 ≠ b183 := Nat.ne_of_lt (Nat.lt_of_lt_of_le f170.lt (Nat.le_of_eq g183.symm))
  have ne183_b102 : b102 ≠ b183 := Nat.ne_of_lt (Nat.lt_of_lt_of_le f178.lt (Nat.le_of_eq g183.symm))
  have ne183_b127 : b127 ≠ b183 := Nat.ne_of_lt (Nat.lt_of_lt_of_le f180.lt (Nat.le_of_eq g183.symm))
  have ne183_b154 : b154 ≠ b183 := Nat.ne_of_lt (Nat.lt_of_lt_of_le f182.lt (Nat.le_of_eq g183.symm))
  have f184 := f170.ext E183
  have f185 := f171.ext E183
  have f186 := f172.ext E183
  have f187 := f173.ext E183
  have f188 := f174.ext E183
  have f189 := f175.ext E183
  have f190 := f176.ext E183
  have f191 := Nat.le_trans f177 E183.1
  have f192 := f178.ext E183
  have f193 := f179.ext E183
  have f194 := f180.ext E183
  have f195 := f181.ext E183
  have f196 := f182.ext E183
  have f197 := fw169.ext E183
  have f198 : Arv Z h183 b183 k183 .int (17 : Int32) [(.int (0 : Int32)), (.int (0 : Int32)), (.int (0 : Int32))] (.int (0 : Int32)) := (Arv.new A183 (by decide)).pad (pad_rep [] (.int (0 : Int32)) 3)
  refine EndsQ.go st183 ?_
  show EndsQ _ _ _ _ _ _ _ (T183.setTop (mkF m 33 #[.val (.ref a1), .val (.int (4 : Int32))] [(.ref b183), (.ref a1)]))
  obtain ⟨T199, h199, X199, e199, W199, st199⟩ := putF X183 hx hZ hown (host := "") (Or.inl (hw _ (List.mem_of_getElem? (i := 17) rfl))) Via.refl e183 f185 f184 (Or.inl (hw _ (List.mem_of_getElem? (i := 18) rfl))) (hw _ (List.mem_of_getElem? (i := 1) rfl)) (ty := (.array .int)) (by decide) rfl rfl (g := (mkF m 33 #[.val (.ref a1), .val (.int (4 : Int32))] [(.ref b183), (.ref a1)])) rfl rfl (hb hby d1_33)
  have fw199 : Fld Z h199 a1 "com/example/physarum/physarum/Proposals" "starts" "[I" (.ref b183) := f185.same W199
  have f200 := f184.wr W199
  have f201 := f186.other W199 (Or.inr (slot_ne (Or.inl (hw _ (List.mem_of_getElem? (i := 20) rfl))) (Or.inl (hw _ (List.mem_of_getElem? (i := 18) rfl))) (by decide) (t := (.array .double)) (t' := (.array .int)) (by decide) (by decide)))
  have f202 := f187.other W199 (Or.inr (slot_ne (Or.inl (hw _ (List.mem_of_getElem? (i := 22) rfl))) (Or.inl (hw _ (List.mem_of_getElem? (i := 18) rfl))) (by decide) (t := (.array .int)) (t' := (.array .int)) (by decide) (by decide)))
  have f203 := f188.other W199 (Or.inr (slot_ne (Or.inr (hw _ (List.mem_of_getElem? (i := 24) rfl))) (Or.inl (hw _ (List.mem_of_getElem? (i := 18) rfl))) (by decide) (t := (.array .int)) (t' := (.array .int)) (by decide) (by decide)))
  have f204 := f189.other W199 (Or.inr (slot_ne (Or.inl (hw _ (List.mem_of_getElem? (i := 38) rfl))) (Or.inl (hw _ (List.mem_of_getElem? (i := 18) rfl))) (by decide) (t := .int) (t' := (.array .int)) (by decide) (by decide)))
  have f205 := f190.other W199 (Or.inr (slot_ne (Or.inl (hw _ (List.mem_of_getElem? (i := 36) rfl))) (Or.inl (hw _ (List.mem_of_getElem? (i := 18) rfl))) (by decide) (t := .int) (t' := (.array .int)) (by decide) (by decide)))
  have f206 := Nat.le_trans f191 (Keep.of_wr W199).1
  have f207 := f192.other W199 (Ne.symm ne102_a1)
  have f208 := f193.other W199 (Or.inr (slot_ne (Or.inl (hw _ (List.mem_of_getElem? (i := 11) rfl))) (Or.inl (hw _ (List.mem_of_getElem? (i := 18) rfl))) (by decide) (t := (.array .int)) (t' := (.array .int)) (by decide) (by decide)))
  have f209 := f194.other W199 (Ne.symm ne127_a1)
  have f210 := f195.other W199 (Or.inr (slot_ne (Or.inl (hw _ (List.mem_of_getElem? (i := 13) rfl))) (Or.inl (hw _ (List.mem_of_getElem? (i := 18) rfl))) (by decide) (t := (.array .int)) (t' := (.array .int)) (by decide) (by decide)))
  have f211 := f196.other W199 (Ne.symm ne154_a1)
  have f212 := f197.other W199 (Or.inr (slot_ne (Or.inl (hw _ (List.mem_of_getElem? (i := 16) rfl))) (Or.inl (hw _ (List.mem_of_getElem? (i := 18) rfl))) (by decide) (t := (.array .double)) (t' := (.array .int)) (by decide) (by decide)))
  have f213 := f198.other W199 (Ne.symm ne183_a1)
  have N199 := Fr.snoc X199 N169 g1
  refine EndsQ.go st199 ?_
  show EndsQ _ _ _ _ _ _ _ (T199.setTop (mkF m 36 #[.val (.ref a1), .val (.int (4 : Int32))] []))
  refine EndsQ.go (b := T199.setTop (mkF m 39 #[.val (.ref a1), .val (.int (4 : Int32))] [(.int (64 : Int32)), (.ref a1)])) (fun t k => ?_) ?_
  · show Steps p.tables e below (T199.setTop (mkF m 36 #[.val (.ref a1), .val (.int (4 : Int32))] [])) _
    refine XS.aloadN X199.here hx rfl (hb hby d1_36) rfl rfl ?_
    refine XS.bipush X199.here hx rfl (hb hby d1_37) ?_
    exact k
  obtain ⟨T214, h214, k214, X214, e214, E214, A214, st214⟩ := newP X199 hx hZ (hw _ (List.mem_of_getElem? (i := 14) rfl)) e199 (g := (mkF m 39 #[.val (.ref a1), .val (.int (4 : Int32))] [(.int (64 : Int32)), (.ref a1)])) rfl (hb hby d1_39) rfl (by decide) (cap := 64) (by decide) (by decide) (by decide) (by decide)
  obtain ⟨b214, g214⟩ : ∃ z, z = h199.size := ⟨_, rfl⟩
  rw [← g214] at A214 st214
  have gn214 : n0 ≤ b214 := Nat.le_trans f206 (Nat.le_of_eq g214.symm)
  have ne214_a1 : a1 ≠ b214 := Nat.ne_of_lt (Nat.lt_of_lt_of_le f200.lt (Nat.le_of_eq g214.symm))
  have ne214_b102 : b102 ≠ b214 := Nat.ne_of_lt (Nat.lt_of_lt_of_le f207.lt (Nat.le_of_eq g214.symm))
  have ne214_b127 : b127 ≠ b214 := Nat.ne_of_lt (Nat.lt_of_lt_of_le f209.lt (Nat.le_of_eq g214.symm))
  have ne214_b154 : b154 ≠ b214 := Nat.ne_of_lt (Nat.lt_of_lt_of_le f211.lt (Nat.le_of_eq g214.symm))
  have ne214_b183 : b183 ≠ b214 := Nat.ne_of_lt (Nat.lt_of_lt_of_le f213.lt (Nat.le_of_eq g214.symm))
  have f215 := f200.ext E214
  have f216 := f201.ext E214
  have f217 := f202.ext E214
  have f218 := f203.ext E214
  have f219 := f204.ext E214
  have f220 := f205.ext E214
  have f221 := Nat.le_trans f206 E214.1
  have f222 := f207.ext E214
  have f223 := f208.ext E214
  have f224 := f209.ext E214
  have f225 := f210.ext E214
  have f226 := f211.ext E214
  have f227 := f212.ext E214
  have f228 := f213.ext E214
  have f229 := fw199.ext E214
  have f230 : Arv Z h214 b214 k214 .double (64 : Int32) [(.double (0 : UInt64)), (.double (0 : UInt64)), (.double (0 : UInt64))] (.double (0 : UInt64)) := (Arv.new A214 (by decide)).pad (pad_rep [] (.double (0 : UInt64)) 3)
  refine EndsQ.go st214 ?_
  show EndsQ _ _ _ _ _ _ _ (T214.setTop (mkF m 41 #[.val (.ref a1), .val (.int (4 : Int32))] [(.ref b214), (.ref a1)]))
  obtain ⟨T231, h231, X231, e231, W231, st231⟩ := putF X214 hx hZ hown (host := "") (Or.inl (hw _ (List.mem_of_getElem? (i := 19) rfl))) Via.refl e214 f216 f215 (Or.inl (hw _ (List.mem_of_getElem? (i := 20) rfl))) (hw _ (List.mem_of_getElem? (i := 1) rfl)) (ty := (.array .double)) (by decide) rfl rfl (g := (mkF m 41 #[.val (.ref a1), .val (.int (4 : Int32))] [(.ref b214), (.ref a1)])) rfl rfl (hb hby d1_41)
  have fw231 : Fld Z h231 a1 "com/example/physarum/physarum/Proposals" "arranged" "[D" (.ref b214) := f216.same W231
  have f232 := f215.wr W231
  have f233 := f217.other W231 (Or.inr (slot_ne (Or.inl (hw _ (List.mem_of_getElem? (i := 22) rfl))) (Or.inl (hw _ (List.mem_of_getElem? (i := 20) rfl))) (by decide) (t := (.array .int)) (t' := (.array .double)) (by decide) (by decide)))
  have f234 := f218.other W231 (Or.inr (slot_ne (Or.inr (hw _ (List.mem_of_getElem? (i := 24) rfl))) (Or.inl (hw _ (List.mem_of_getElem? (i := 20) rfl))) (by decide) (t := (.array .int)) (t' := (.array .double)) (by decide) (by decide)))
  have f235 := f219.other W231 (Or.inr (slot_ne (Or.inl (hw _ (List.mem_of_getElem? (i := 38) rfl))) (Or.inl (hw _ (List.mem_of_getElem? (i := 20) rfl))) (by decide) (t := .int) (t' := (.array .double)) (by decide) (by decide)))
  have f236 := f220.other W231 (Or.inr (slot_ne (Or.inl (hw _ (List.mem_of_getElem? (i := 36) rfl))) (Or.inl (hw _ (List.mem_of_getElem? (i := 20) rfl))) (by decide) (t := .int) (t' := (.array .double)) (by decide) (by decide)))
  have f237 := Nat.le_trans f221 (Keep.of_wr W231).1
  have f238 := f222.other W231 (Ne.symm ne102_a1)
  have f239 := f223.other W231 (Or.inr (slot_ne (Or.inl (hw _ (List.mem_of_getElem? (i := 11) rfl))) (Or.inl (hw _ (List.mem_of_getElem? (i := 20) rfl))) (by decide) (t := (.array .int)) (t' := (.array .double)) (by decide) (by decide)))
  have f240 := f224.other W231 (Ne.symm ne127_a1)
  have f241 := f225.other W231 (Or.inr (slot_ne (Or.inl (hw _ (List.mem_of_getElem? (i := 13) rfl))) (Or.inl (hw _ (List.mem_of_getElem? (i := 20) rfl))) (by decide) (t := (.array .int)) (t' := (.array .double)) (by decide) (by decide)))
  have f242 := f226.other W231 (Ne.symm ne154_a1)
  have f243 := f227.other W231 (Or.inr (slot_ne (Or.inl (hw _ (List.mem_of_getElem? (i := 16) rfl))) (Or.inl (hw _ (List.mem_of_getElem? (i := 20) rfl))) (by decide) (t := (.array .double)) (t' := (.array .double)) (by decide) (by decide)))
  have f244 := f228.other W231 (Ne.symm ne183_a1)
  have f245 := f229.other W231 (Or.inr (slot_ne (Or.inl (hw _ (List.mem_of_getElem? (i := 18) rfl))) (Or.inl (hw _ (List.mem_of_getElem? (i := 20) rfl))) (by decide) (t := (.array .int)) (t' := (.array .double)) (by decide) (by decide)))
  have f246 := f230.other W231 (Ne.symm ne214_a1)
  have N231 := Fr.snoc X231 N199 g1
  refine EndsQ.go st231 ?_
  show EndsQ _ _ _ _ _ _ _ (T231.setTop (mkF m 44 #[.val (.ref a1), .val (.int (4 : Int32))] []))
  refine EndsQ.go (b := T231.setTop (mkF m 47 #[.val (.ref a1), .val (.int (4 : Int32))] [(.int (16 : Int32)), (.ref a1)])) (fun t k => ?_) ?_
  · show Steps p.tables e below (T231.setTop (mkF m 44 #[.val (.ref a1), .val (.int (4 : Int32))] [])) _
    refine XS.aloadN X231.here hx rfl (hb hby d1_44) rfl rfl ?_
    show Steps p.tables e below (T231.setTop (mkF m 45 #[.val (.ref a1), .val (.int (4 : Int32))] [(.ref a1)])) _
    refine XS.bipush X231.here hx rfl (hb hby d1_45) ?_
    exact k
  obtain ⟨T247, h247, k247, X247, e247, E247, A247, st247⟩ := newP X231 hx hZ (hw _ (List.mem_of_getElem? (i := 9) rfl)) e231 (g := (mkF m 47 #[.val (.ref a1), .val (.int (4 : Int32))] [(.int (16 : Int32)), (.ref a1)])) rfl (hb hby d1_47) rfl (by decide) (cap := 16) (by decide) (by decide) (by decide) (by decide)
  obtain ⟨b247, g247⟩ : ∃ z, z = h231.size := ⟨_, rfl⟩
  rw [← g247] at A247 st247
  have gn247 : n0 ≤ b247 := Nat.le_trans f237 (Nat.le_of_eq g247.symm)
  have ne247_a1 : a1 ≠ b247 := Nat.ne_of_lt (Nat.lt_of_lt_of_le f232.lt (Nat.le_of_eq g247.symm))
  have ne247_b102 : b102 ≠ b247 := Nat.ne_of_lt (Nat.lt_of_lt_of_le f238.lt (Nat.le_of_eq g247.symm))
  have ne247_b127 : b127 ≠ b247 := Nat.ne_of_lt (Nat.lt_of_lt_of_le f240.lt (Nat.le_of_eq g247.symm))
  have ne247_b154 : b154 ≠ b247 := Nat.ne_of_lt (Nat.lt_of_lt_of_le f242.lt (Nat.le_of_eq g247.symm))
  have ne247_b183 : b183 ≠ b247 := Nat.ne_of_lt (Nat.lt_of_lt_of_le f244.lt (Nat.le_of_eq g247.symm))
  have ne247_b214 : b214 ≠ b247 := Nat.ne_of_lt (Nat.lt_of_lt_of_le f246.lt (Nat.le_of_eq g247.symm))
  have f248 := f232.ext E247
  have f249 := f233.ext E247
  have f250 := f234.ext E247
  have f251 := f235.ext E247
  have f252 := f236.ext E247
  have f253 := Nat.le_trans f237 E247.1
  have f254 := f238.ext E247
  have f255 := f239.ext E247
  have f256 := f240.ext E247
  have f257 := f241.ext E247
  have f258 := f242.ext E247
  have f259 := f243.ext E247
  have f260 := f244.ext E247
  have f261 := f245.ext E247
  have f262 := f246.ext E247
  have f263 := fw231.ext E247
  have f264 : Arv Z h247 b247 k247 .int (16 : Int32) [(.int (0 : Int32)), (.int (0 : Int32)), (.int (0 : Int32))] (.int (0 : Int32)) := (Arv.new A247 (by decide)).pad (pad_rep [] (.int (0 : Int32)) 3)
  refine EndsQ.go st247 ?_
  show EndsQ _ _ _ _ _ _ _ (T247.setTop (mkF m 49 #[.val (.ref a1), .val (.int (4 : Int32))] [(.ref b247), (.ref a1)]))
  obtain ⟨T265, h265, X265, e265, W265, st265⟩ := putF X247 hx hZ hown (host := "") (Or.inl (hw _ (List.mem_of_getElem? (i := 21) rfl))) Via.refl e247 f249 f248 (Or.inl (hw _ (List.mem_of_getElem? (i := 22) rfl))) (hw _ (List.mem_of_getElem? (i := 1) rfl)) (ty := (.array .int)) (by decide) rfl rfl (g := (mkF m 49 #[.val (.ref a1), .val (.int (4 : Int32))] [(.ref b247), (.ref a1)])) rfl rfl (hb hby d1_49)
  have fw265 : Fld Z h265 a1 "com/example/physarum/physarum/Proposals" "taken" "[I" (.ref b247) := f249.same W265
  have f266 := f248.wr W265
  have f267 := f250.other W265 (Or.inr (slot_ne (Or.inr (hw _ (List.mem_of_getElem? (i := 24) rfl))) (Or.inl (hw _ (List.mem_of_getElem? (i := 22) rfl))) (by decide) (t := (.array .int)) (t' := (.array .int)) (by decide) (by decide)))
  have f268 := f251.other W265 (Or.inr (slot_ne (Or.inl (hw _ (List.mem_of_getElem? (i := 38) rfl))) (Or.inl (hw _ (List.mem_of_getElem? (i := 22) rfl))) (by decide) (t := .int) (t' := (.array .int)) (by decide) (by decide)))
  have f269 := f252.other W265 (Or.inr (slot_ne (Or.inl (hw _ (List.mem_of_getElem? (i := 36) rfl))) (Or.inl (hw _ (List.mem_of_getElem? (i := 22) rfl))) (by decide) (t := .int) (t' := (.array .int)) (by decide) (by decide)))
  have f270 := Nat.le_trans f253 (Keep.of_wr W265).1
  have f271 := f254.other W265 (Ne.symm ne102_a1)
  have f272 := f255.other W265 (Or.inr (slot_ne (Or.inl (hw _ (List.mem_of_getElem? (i := 11) rfl))) (Or.inl (hw _ (List.mem_of_getElem? (i := 22) rfl))) (by decide) (t := (.array .int)) (t' := (.array .int)) (by decide) (by decide)))
  have f273 := f256.other W265 (Ne.symm ne127_a1)
  have f274 := f257.other W265 (Or.inr (slot_ne (Or.inl (hw _ (List.mem_of_getElem? (i := 13) rfl))) (Or.inl (hw _ (List.mem_of_getElem? (i := 22) rfl))) (by decide) (t := (.array .int)) (t' := (.array .int)) (by decide) (by decide)))
  have f275 := f258.other W265 (Ne.symm ne154_a1)
  have f276 := f259.other W265 (Or.inr (slot_ne (Or.inl (hw _ (List.mem_of_getElem? (i := 16) rfl))) (Or.inl (hw _ (List.mem_of_getElem? (i := 22) rfl))) (by decide) (t := (.array .double)) (t' := (.array .int)) (by decide) (by decide)))
  have f277 := f260.other W265 (Ne.symm ne183_a1)
  have f278 := f261.other W265 (Or.inr (slot_ne (Or.inl (hw _ (List.mem_of_getElem? (i := 18) rfl))) (Or.inl (hw _ (List.mem_of_getElem? (i := 22) rfl))) (by decide) (t := (.array .int)) (t' := (.array .int)) (by decide) (by decide)))
  have f279 := f262.other W265 (Ne.symm ne214_a1)
  have f280 := f263.other W265 (Or.inr (slot_ne (Or.inl (hw _ (List.mem_of_getElem? (i := 20) rfl))) (Or.inl (hw _ (List.mem_of_getElem? (i := 22) rfl))) (by decide) (t := (.array .double)) (t' := (.array .int)) (by decide) (by decide)))
  have f281 := f264.other W265 (Ne.symm ne247_a1)
  have N265 := Fr.snoc X265 N231 g1
  refine EndsQ.go st265 ?_
  show EndsQ _ _ _ _ _ _ _ (T265.setTop (mkF m 52 #[.val (.ref a1), .val (.int (4 : Int32))] []))
  refine EndsQ.go (b := T265.setTop (mkF m 54 #[.val (.ref a1), .val (.int (4 : Int32))] [(.int (4 : Int32)), (.ref a1)])) (fun t k => ?_) ?_
  · show Steps p.tables e below (T265.setTop (mkF m 52 #[.val (.ref a1), .val (.int (4 : Int32))] [])) _
    refine XS.aloadN X265.here hx rfl (hb hby d1_52) rfl rfl ?_
    refine XS.iloadN X265.here hx rfl (hb hby d1_53) rfl ?_
    exact k
  obtain ⟨T282, h282, k282, X282, e282, E282, A282, st282⟩ := newP X265 hx hZ (hw _ (List.mem_of_getElem? (i := 9) rfl)) e265 (g := (mkF m 54 #[.val (.ref a1), .val (.int (4 : Int32))] [(.int (4 : Int32)), (.ref a1)])) rfl (hb hby d1_54) rfl (by decide) (cap := 4) (by decide) (by decide) (by decide) (by decide)
  obtain ⟨b282, g282⟩ : ∃ z, z = h265.size := ⟨_, rfl⟩
  rw [← g282] at A282 st282
  have gn282 : n0 ≤ b282 := Nat.le_trans f270 (Nat.le_of_eq g282.symm)
  have ne282_a1 : a1 ≠ b282 := Nat.ne_of_lt (Nat.lt_of_lt_of_le f266.lt (Nat.le_of_eq g282.symm))
  have ne282_b102 : b102 ≠ b282 := Nat.ne_of_lt (Nat.lt_of_lt_of_le f271.lt (Nat.le_of_eq g282.symm))
  have ne282_b127 : b127 ≠ b282 := Nat.ne_of_lt (Nat.lt_of_lt_of_le f273.lt (Nat.le_of_eq g282.symm))
  have ne282_b154 : b154 ≠ b282 := Nat.ne_of_lt (Nat.lt_of_lt_of_le f275.lt (Nat.le_of_eq g282.symm))
  have ne282_b183 : b183 ≠ b282 := Nat.ne_of_lt (Nat.lt_of_lt_of_le f277.lt (Nat.le_of_eq g282.symm))
  have ne282_b214 : b214 ≠ b282 := Nat.ne_of_lt (Nat.lt_of_lt_of_le f279.lt (Nat.le_of_eq g282.symm))
  have ne282_b247 : b247 ≠ b282 := Nat.ne_of_lt (Nat.lt_of_lt_of_le f281.lt (Nat.le_of_eq g282.symm))
  have f283 := f266.ext E282
  have f284 := f267.ext E282
  have f285 := f268.ext E282
  have f286 := f269.ext E282
  have f287 := Nat.le_trans f270 E282.1
  have f288 := f271.ext E282
  have f289 := f272.ext E282
  have f290 := f273.ext E282
  have f291 := f274.ext E282
  have f292 := f275.ext E282
  have f293 := f276.ext E282
  have f294 := f277.ext E282
  have f295 := f278.ext E282
  have f296 := f279.ext E282
  have f297 := f280.ext E282
  have f298 := f281.ext E282
  have f299 := fw265.ext E282
  have f300 : Arv Z h282 b282 k282 .int (4 : Int32) [(.int (0 : Int32)), (.int (0 : Int32)), (.int (0 : Int32)), (.int (0 : Int32))] (.int (0 : Int32)) := (Arv.new A282 (by decide)).pad (pad_rep [] (.int (0 : Int32)) 4)
  refine EndsQ.go st282 ?_
  show EndsQ _ _ _ _ _ _ _ (T282.setTop (mkF m 56 #[.val (.ref a1), .val (.int (4 : Int32))] [(.ref b282), (.ref a1)]))
  obtain ⟨T301, h301, X301, e301, W301, st301⟩ := putF X282 hx hZ hown (host := "") (Or.inl (hw _ (List.mem_of_getElem? (i := 23) rfl))) Via.refl e282 f284 f283 (Or.inr ⟨(hw _ (List.mem_of_getElem? (i := 24) rfl)), rfl, hnm⟩) (hw _ (List.mem_of_getElem? (i := 1) rfl)) (ty := (.array .int)) (by decide) rfl rfl (g := (mkF m 56 #[.val (.ref a1), .val (.int (4 : Int32))] [(.ref b282), (.ref a1)])) rfl rfl (hb hby d1_56)
  have fw301 : Fld Z h301 a1 "com/example/physarum/physarum/Proposals" "indices" "[I" (.ref b282) := f284.same W301
  have f302 := f283.wr W301
  have f303 := f285.other W301 (Or.inr (slot_ne (Or.inl (hw _ (List.mem_of_getElem? (i := 38) rfl))) (Or.inr (hw _ (List.mem_of_getElem? (i := 24) rfl))) (by decide) (t := .int) (t' := (.array .int)) (by decide) (by decide)))
  have f304 := f286.other W301 (Or.inr (slot_ne (Or.inl (hw _ (List.mem_of_getElem? (i := 36) rfl))) (Or.inr (hw _ (List.mem_of_getElem? (i := 24) rfl))) (by decide) (t := .int) (t' := (.array .int)) (by decide) (by decide)))
  have f305 := Nat.le_trans f287 (Keep.of_wr W301).1
  have f306 := f288.other W301 (Ne.symm ne102_a1)
  have f307 := f289.other W301 (Or.inr (slot_ne (Or.inl (hw _ (List.mem_of_getElem? (i := 11) rfl))) (Or.inr (hw _ (List.mem_of_getElem? (i := 24) rfl))) (by decide) (t := (.array .int)) (t' := (.array .int)) (by decide) (by decide)))
  have f308 := f290.other W301 (Ne.symm ne127_a1)
  have f309 := f291.other W301 (Or.inr (slot_ne (Or.inl (hw _ (List.mem_of_getElem? (i := 13) rfl))) (Or.inr (hw _ (List.mem_of_getElem? (i := 24) rfl))) (by decide) (t := (.array .int)) (t' := (.array .int)) (by decide) (by decide)))
  have f310 := f292.other W301 (Ne.symm ne154_a1)
  have f311 := f293.other W301 (Or.inr (slot_ne (Or.inl (hw _ (List.mem_of_getElem? (i := 16) rfl))) (Or.inr (hw _ (List.mem_of_getElem? (i := 24) rfl))) (by decide) (t := (.array .double)) (t' := (.array .int)) (by decide) (by decide)))
  have f312 := f294.other W301 (Ne.symm ne183_a1)
  have f313 := f295.other W301 (Or.inr (slot_ne (Or.inl (hw _ (List.mem_of_getElem? (i := 18) rfl))) (Or.inr (hw _ (List.mem_of_getElem? (i := 24) rfl))) (by decide) (t := (.array .int)) (t' := (.array .int)) (by decide) (by decide)))
  have f314 := f296.other W301 (Ne.symm ne214_a1)
  have f315 := f297.other W301 (Or.inr (slot_ne (Or.inl (hw _ (List.mem_of_getElem? (i := 20) rfl))) (Or.inr (hw _ (List.mem_of_getElem? (i := 24) rfl))) (by decide) (t := (.array .double)) (t' := (.array .int)) (by decide) (by decide)))
  have f316 := f298.other W301 (Ne.symm ne247_a1)
  have f317 := f299.other W301 (Or.inr (slot_ne (Or.inl (hw _ (List.mem_of_getElem? (i := 22) rfl))) (Or.inr (hw _ (List.mem_of_getElem? (i := 24) rfl))) (by decide) (t := (.array .int)) (t' := (.array .int)) (by decide) (by decide)))
  have f318 := f300.other W301 (Ne.symm ne282_a1)
  have N301 := Fr.snoc X301 N265 g1
  refine EndsQ.go st301 ?_
  show EndsQ _ _ _ _ _ _ _ (T301.setTop (mkF m 59 #[.val (.ref a1), .val (.int (4 : Int32))] []))
  refine EndsQ.go (b := T301.setTop (mkF m 60 #[.val (.ref a1), .val (.int (4 : Int32))] [(.ref a1)])) (fun t k => ?_) ?_
  · show Steps p.tables e below (T301.setTop (mkF m 59 #[.val (.ref a1), .val (.int (4 : Int32))] [])) _
    refine XS.aloadN X301.here hx rfl (hb hby d1_59) rfl rfl ?_
    show Steps p.tables e below (T301.setTop (mkF m 60 #[.val (.ref a1), .val (.int (4 : Int32))] [(.ref a1)])) _
    exact k
  obtain ⟨T319, X319, e319, st319⟩ := getF X301 hx hZ hown (host := "") (Or.inl (hw _ (List.mem_of_getElem? (i := 23) rfl))) Via.refl e301 fw301 (g := (mkF m 60 #[.val (.ref a1), .val (.int (4 : Int32))] [(.ref a1)])) rfl rfl (hb hby d1_60)
  refine EndsQ.go st319 ?_
  show EndsQ _ _ _ _ _ _ _ (T319.setTop (mkF m 63 #[.val (.ref a1), .val (.int (4 : Int32))] [(.ref b282)]))
  refine EndsQ.go (b := T319.setTop (mkF m 64 #[.val (.ref a1), .val (.int (4 : Int32))] [(.int (-1 : Int32)), (.ref b282)])) (fun t k => ?_) ?_
  · show Steps p.tables e below (T319.setTop (mkF m 63 #[.val (.ref a1), .val (.int (4 : Int32))] [(.ref b282)])) _
    refine XS.iconst X319.here hx rfl (hb hby d1_63) ?_
    exact k
  obtain ⟨_, _, ⟨T320, L320, kk320, nn320⟩, -, X320, ⟨Lc320, hQ320, l320, y320, z320⟩, st320⟩ := Jvm.LawKit.callS X319 hx (y := (⟨"java/util/Arrays", "fill", "([II)V"⟩ : MethodName)) hown (mvT hZ (hw _ (List.mem_of_getElem? (i := 25) rfl))) (mvT hZ (hw _ (List.mem_of_getElem? (i := 26) rfl))) (mvT hZ (hw _ (List.mem_of_getElem? (i := 27) rfl))) (mvT hZ (hw _ (List.mem_of_getElem? (i := 28) rfl))) (by decide) (backOf (W := 0) (rmFill l Z a0 hw [] b282 k282 h301 n0 f305 f318 gn282) hZ (hw _ (List.mem_of_getElem? (i := 28) rfl)) (hw _ (List.mem_of_getElem? (i := 27) rfl)) (by decide) (by decide)) (g := (mkF m 64 #[.val (.ref a1), .val (.int (4 : Int32))] [(.int (-1 : Int32)), (.ref b282)])) rfl (by rw [hml]; rfl) (argsL := [(.ref b282), (.int (-1 : Int32))]) (rest := []) (lenOf pd_0 rfl) rfl (by show 2 * 0 + _ ≤ _; exact Nat.le_of_eq rfl) (hb hby d1_64) (fun _ _ => ⟨rfl, e319, (by decide : 7 + 0 ≤ _), (by decide : 245 + 0 ≤ _)⟩)
  dsimp only [Pt.U, Pt.locs, Pt.cells, Pt.slots] at X320 l320 y320 z320 st320 hQ320
  subst l320 y320 z320
  obtain ⟨rfl, Nq320, K320, Vf320⟩ := hQ320
  have N320 := Fr.app N301 Nq320
  have f321 := f302.keep K320
  have f322 := f303.keep K320 (ninS ne282_a1 nin0)
  have f323 := f304.keep K320 (ninS ne282_a1 nin0)
  have f324 := Nat.le_trans f305 K320.1
  have f325 := f306.keep K320 (ninS ne282_b102 nin0)
  have f326 := f307.keep K320 (ninS ne282_a1 nin0)
  have f327 := f308.keep K320 (ninS ne282_b127 nin0)
  have f328 := f309.keep K320 (ninS ne282_a1 nin0)
  have f329 := f310.keep K320 (ninS ne282_b154 nin0)
  have f330 := f311.keep K320 (ninS ne282_a1 nin0)
  have f331 := f312.keep K320 (ninS ne282_b183 nin0)
  have f332 := f313.keep K320 (ninS ne282_a1 nin0)
  have f333 := f314.keep K320 (ninS ne282_b214 nin0)
  have f334 := f315.keep K320 (ninS ne282_a1 nin0)
  have f335 := f316.keep K320 (ninS ne282_b247 nin0)
  have f336 := f317.keep K320 (ninS ne282_a1 nin0)
  have f337 := fw301.keep K320 (ninS ne282_a1 nin0)
  refine EndsQ.go st320 ?_
  show EndsQ _ _ _ _ _ _ _ (T320.setTop (mkF m 67 #[.val (.ref a1), .val (.int (4 : Int32))] []))
  refine EndsQ.retV X320 hx Bd.notSynchronized Bd.returns (hb hby d1_67) (by decide) (by decide) ?_
  show QInit Z a1 h0 n0 (none) T320.heap _
  exact ⟨own_o a1 b102 b127 b154 b183 b214 b247 b282, own_k k102 k127 k154 k183 k214 k247 k282, rfl, rfl, N320, f324, own_ne_of ne102_a1 ne127_a1 ne154_a1 ne183_a1 ne214_a1 ne247_a1 ne282_a1 ne127_b102 ne154_b102 ne183_b102 ne214_b102 ne247_b102 ne282_b102 ne154_b127 ne183_b127 ne214_b127 ne247_b127 ne282_b127 ne183_b154 ne214_b154 ne247_b154 ne282_b154 ne214_b183 ne247_b183 ne282_b183 ne247_b214 ne282_b214 ne282_b247, own_nn_of g1 gn102 gn127 gn154 gn183 gn214 gn247 gn282, ⟨f321, f326, f328, f330, f332, f334, f336, f337, f322, f323, f325, f327, f329, f331, f333, f335, Vf320⟩⟩
theorem ef_AddN0 (m : MethodId) (x0 : Addr) (x1 : Int32) (x2 : UInt64) : entryFrame m #[(.ref x0), (.int x1), (.double x2)] 5 = mkF m 0 #[.val (.ref x0), .val (.int x1), .val (.double x2), .second, .unset] [] := by first | (simp [entryFrame, mkF, argsToLocals, Value.category]; done) | rfl
def QAddN0 (Z : State) (p1 : Int32) (q2 : UInt64) (oo : Nat → Addr) (kk : Nat → ClassId) (c0 : Int32) (c1 : Int32) (c2 : Int32) (r0 : Int32) (r1 : Int32) (r2 : Int32) (d0 : UInt64) (d1 : UInt64) (d2 : UInt64) (s0 : Int32) (s1 : Int32) (s2 : Int32) (g0 : UInt64) (g1 : UInt64) (g2 : UInt64) (t0 : Int32) (t1 : Int32) (t2 : Int32) (vx : List Value) (h0 : Heap) (n0 : Nat) (v : Option Value) (h : Heap) (L : List Loc) : Prop := v = none ∧ Fr n0 L ∧ n0 ≤ h.size ∧ own_St Z h oo kk (1 : Int32) (1 : Int32) [(.int p1), (.int c1), (.int c2)] [(.int (0 : Int32)), (.int r1), (.int r2)] [(.double q2), (.double d1), (.double d2)] [(.int (1 : Int32)), (.int s1), (.int s2)] [(.double g0), (.double g1), (.double g2)] [(.int t0), (.int t1), (.int t2)] (vx.set (p1).toNatClampNeg (.int (0 : Int32)))
set_option maxRecDepth 65536 in
set_option maxHeartbeats 40000000 in
theorem rmAddN0 (l : Launch) (Z : State) (a0 : Array Value) (hw : ∀ d ∈ tables_1, d.before a0 Z = true) (ws : List Jvm.Cond) (p1 : Int32) (q2 : UInt64) (oo : Nat → Addr) (kk : Nat → ClassId) (c0 : Int32) (c1 : Int32) (c2 : Int32) (r0 : Int32) (r1 : Int32) (r2 : Int32) (d0 : UInt64) (d1 : UInt64) (d2 : UInt64) (s0 : Int32) (s1 : Int32) (s2 : Int32) (g0 : UInt64) (g1 : UInt64) (g2 : UInt64) (t0 : Int32) (t1 : Int32) (t2 : Int32) (vx : List Value) (h0 : Heap) (n0 : Nat) (Z0 : n0 ≤ h0.size) (hne : own_ne oo) (hn : own_nn n0 oo) (HS : own_St Z h0 oo kk (0 : Int32) (0 : Int32) [(.int c0), (.int c1), (.int c2)] [(.int r0), (.int r1), (.int r2)] [(.double d0), (.double d1), (.double d2)] [(.int s0), (.int s1), (.int s2)] [(.double g0), (.double g1), (.double g2)] [(.int t0), (.int t1), (.int t2)] vx) (hvl : vx.length = 4) (hp : ¬ p1 < (0 : Int32) ∧ p1 < (4 : Int32)) (hix : vx.getD p1.toNatClampNeg (.int (0 : Int32)) = .int (-1 : Int32)) :
    MetFree l (⟨"com/example/physarum/physarum/Proposals", "add", "(ID)V"⟩ : MethodName) (head1 (Jvm.Cond.code (⟨"com/example/physarum/physarum/Proposals", "add", "(ID)V"⟩ : MethodName) prog_44_method_3_code 5 none :: ws) ({ frames := 0, cells := 0, slots := 0, locals := 0 } : Room)) (fun a U => a = #[(.ref (oo 0)), (.int p1), (.double q2)] ∧ Z.Warmed39 U.vm ∧ U.heap = h0) (fun _ _ _ _ _ => True) (fun _ U o U' => ∃ v L, o = .returned v ∧ QAddN0 Z p1 q2 oo kk c0 c1 c2 r0 r1 r2 d0 d1 d2 s0 s1 s2 g0 g1 g2 t0 t1 t2 vx h0 n0 v U'.heap L ∧ FrameEnd U o U' L ({ frames := 0, cells := 0, slots := 0, locals := 0 } : Room).cells ({ frames := 0, cells := 0, slots := 0, locals := 0 } : Room).slots) := by
  refine MetFree.of_bodySF (plainFor_of_name pn_4) hisR ?_
  intro p e s m args below meth c s₁ Bd hml0 hP hK
  obtain ⟨rfl, hZ, hh⟩ := hP
  have hx := Bd.exec
  have hby := Bd.bytes
  have hml : c.maxLocals = 5 := hml0
  have hown : s.vm.findClass "com/example/physarum/physarum/Proposals" = some m.cls := findClass_of_methodNamed Bd.named
  have hnm := (name_of_methodNamed Bd.named Bd.method).1
  have X0 : Stand p l e ({ frames := 0, cells := 0, slots := 0, locals := 0 } : Room) s m #[(.ref (oo 0)), (.int p1), (.double q2)] below meth c s₁ [] 0 0 := Stand.of_body Bd
  have e0 : s₁.heap = h0 := by rw [← hh, Bd.state]; rfl
  have N0 := Fr.nil n0
  show EndsQ p.tables e below s (fun v h L => QAddN0 Z p1 q2 oo kk c0 c1 c2 r0 r1 r2 d0 d1 d2 s0 s1 s2 g0 g1 g2 t0 t1 t2 vx h0 n0 v h L) ({ frames := 0, cells := 0, slots := 0, locals := 0 } : Room).cells ({ frames := 0, cells := 0, slots := 0, locals := 0 } : Room).slots _
  refine EndsQ.go (b := s₁.setTop (mkF m 0 #[.val (.ref (oo 0)), .val (.int p1), .val (.double q2), .second, .unset] [])) (fun t k => castTop (ef_AddN0 m (oo 0) p1 q2) k) ?_
  have HS0 := HS
  obtain ⟨SE, SF_candidates, SF_proposed, SF_confidences, SF_starts, SF_arranged, SF_taken, SF_indices, SF_cnt, SF_sz, SA_1, SA_2, SA_3, SA_4, SA_5, SA_6, SA_7⟩ := HS
  refine EndsQ.go (b := s₁.setTop (mkF m 1 #[.val (.ref (oo 0)), .val (.int p1), .val (.double q2), .second, .unset] [(.ref (oo 0))])) (fun t k => ?_) ?_
  · show Steps p.tables e below (s₁.setTop (mkF m 0 #[.val (.ref (oo 0)), .val (.int p1), .val (.double q2), .second, .unset] [])) _
    refine XS.aloadN X0.here hx rfl (hb hby d4_0) rfl rfl ?_
    exact k
  obtain ⟨T101, X101, e101, st101⟩ := getF X0 hx hZ hown (host := "") (Or.inl (hw _ (List.mem_of_getElem? (i := 35) rfl))) Via.refl e0 SF_sz (g := (mkF m 1 #[.val (.ref (oo 0)), .val (.int p1), .val (.double q2), .second, .unset] [(.ref (oo 0))])) rfl rfl (hb hby d4_1)
  refine EndsQ.go st101 ?_
  show EndsQ _ _ _ _ _ _ _ (T101.setTop (mkF m 4 #[.val (.ref (oo 0)), .val (.int p1), .val (.double q2), .second, .unset] [(.int (0 : Int32))]))
  refine EndsQ.go (b := T101.setTop (mkF m 5 #[.val (.ref (oo 0)), .val (.int p1), .val (.double q2), .second, .unset] [(.ref (oo 0)), (.int (0 : Int32))])) (fun t k => ?_) ?_
  · show Steps p.tables e below (T101.setTop (mkF m 4 #[.val (.ref (oo 0)), .val (.int p1), .val (.double q2), .second, .unset] [(.int (0 : Int32))])) _
    refine XS.aloadN X101.here hx rfl (hb hby d4_4) rfl rfl ?_
    exact k
  obtain ⟨T102, X102, e102, st102⟩ := getF X101 hx hZ hown (host := "") (Or.inl (hw _ (List.mem_of_getElem? (i := 15) rfl))) Via.refl e101 SF_confidences (g := (mkF m 5 #[.val (.ref (oo 0)), .val (.int p1), .val (.double q2), .second, .unset] [(.ref (oo 0)), (.int (0 : Int32))])) rfl rfl (hb hby d4_5)
  refine EndsQ.go st102 ?_
  show EndsQ _ _ _ _ _ _ _ (T102.setTop (mkF m 8 #[.val (.ref (oo 0)), .val (.int p1), .val (.double q2), .second, .unset] [(.ref (oo 3)), (.int (0 : Int32))]))
  obtain ⟨cl103, Ar103, -, S103, M103, -, -⟩ := id SA_3
  refine EndsQ.go (fun t k => X102.arraylength hx (by rw [e102]; exact Ar103.1) (State.isArrayOf_alike hZ.alike Ar103.2.1) (g := (mkF m 8 #[.val (.ref (oo 0)), .val (.int p1), .val (.double q2), .second, .unset] [(.ref (oo 3)), (.int (0 : Int32))])) rfl rfl (hb hby d4_8) _ k) ?_
  rw [len_of S103 M103]
  show EndsQ _ _ _ _ _ _ _ (T102.setTop (mkF m 9 #[.val (.ref (oo 0)), .val (.int p1), .val (.double q2), .second, .unset] [(.int (64 : Int32)), (.int (0 : Int32))]))
  refine EndsQ.go (b := T102.setTop (mkF m 47 #[.val (.ref (oo 0)), .val (.int p1), .val (.double q2), .second, .unset] [(.ref (oo 0))])) (fun t k => ?_) ?_
  · show Steps p.tables e below (T102.setTop (mkF m 9 #[.val (.ref (oo 0)), .val (.int p1), .val (.double q2), .second, .unset] [(.int (64 : Int32)), (.int (0 : Int32))])) _
    refine XS.icmpYes X102.here hx rfl (pc0 := 9) (pc' := 46) rfl (hb hby d4_9) rfl (feq (by decide)).2 (by decide) (by decide) ?_
    show Steps p.tables e below (T102.setTop (mkF m 46 #[.val (.ref (oo 0)), .val (.int p1), .val (.double q2), .second, .unset] [])) _
    refine XS.aloadN X102.here hx rfl (hb hby d4_46) rfl rfl ?_
    exact k
  obtain ⟨T104, X104, e104, st104⟩ := getF X102 hx hZ hown (host := "") (Or.inl (hw _ (List.mem_of_getElem? (i := 23) rfl))) Via.refl e102 SF_indices (g := (mkF m 47 #[.val (.ref (oo 0)), .val (.int p1), .val (.double q2), .second, .unset] [(.ref (oo 0))])) rfl rfl (hb hby d4_47)
  refine EndsQ.go st104 ?_
  show EndsQ _ _ _ _ _ _ _ (T104.setTop (mkF m 50 #[.val (.ref (oo 0)), .val (.int p1), .val (.double q2), .second, .unset] [(.ref (oo 7))]))
  refine EndsQ.go (b := T104.setTop (mkF m 51 #[.val (.ref (oo 0)), .val (.int p1), .val (.double q2), .second, .unset] [(.int p1), (.ref (oo 7))])) (fun t k => ?_) ?_
  · show Steps p.tables e below (T104.setTop (mkF m 50 #[.val (.ref (oo 0)), .val (.int p1), .val (.double q2), .second, .unset] [(.ref (oo 7))])) _
    refine XS.iloadN X104.here hx rfl (hb hby d4_50) rfl ?_
    show Steps p.tables e below (T104.setTop (mkF m 51 #[.val (.ref (oo 0)), .val (.int p1), .val (.double q2), .second, .unset] [(.int p1), (.ref (oo 7))])) _
    exact k
  obtain ⟨cl105, Ar105, q105, S105, M105, H105, G105⟩ := id SA_7
  have hin105 : ¬ (p1 < 0 ∨ cl105.slots.size ≤ (p1).toNatClampNeg) := inb_of S105 hp
  have hat105 : cl105.slots[(p1).toNatClampNeg]? = some (.int (-1 : Int32)) := Has.at H105 hin105 hix
  refine EndsQ.go (fun t k => X104.iaload hx (j := p1) (v := (.int (-1 : Int32))) (by rw [e104]; exact Ar105.1) (State.isArrayOf_alike hZ.alike Ar105.2.1) Ar105.2.2 hin105 hat105 (g := (mkF m 51 #[.val (.ref (oo 0)), .val (.int p1), .val (.double q2), .second, .unset] [(.int p1), (.ref (oo 7))])) rfl rfl (hb hby d4_51) _ k) ?_
  show EndsQ _ _ _ _ _ _ _ (T104.setTop (mkF m 52 #[.val (.ref (oo 0)), .val (.int p1), .val (.double q2), .second, .unset] [(.int (-1 : Int32))]))
  refine EndsQ.go (b := T104.setTop (mkF m 60 #[.val (.ref (oo 0)), .val (.int p1), .val (.double q2), .second, .val (.int (-1 : Int32))] [(.ref (oo 0))])) (fun t k => ?_) ?_
  · show Steps p.tables e below (T104.setTop (mkF m 52 #[.val (.ref (oo 0)), .val (.int p1), .val (.double q2), .second, .unset] [(.int (-1 : Int32))])) _
    refine XS.istore X104.here hx rfl (hb hby d4_52) rfl (l' := #[.val (.ref (oo 0)), .val (.int p1), .val (.double q2), .second, .val (.int (-1 : Int32))]) rfl ?_
    refine XS.iload X104.here hx rfl (hb hby d4_54) rfl ?_
    refine XS.ifNo X104.here hx rfl (hb hby d4_56) rfl ((if0 _ _).trans (tlt (by decide)).2.1) ?_
    show Steps p.tables e below (T104.setTop (mkF m 59 #[.val (.ref (oo 0)), .val (.int p1), .val (.double q2), .second, .val (.int (-1 : Int32))] [])) _
    refine XS.aloadN X104.here hx rfl (hb hby d4_59) rfl rfl ?_
    exact k
  obtain ⟨T106, X106, e106, st106⟩ := getF X104 hx hZ hown (host := "") (Or.inl (hw _ (List.mem_of_getElem? (i := 37) rfl))) Via.refl e104 SF_cnt (g := (mkF m 60 #[.val (.ref (oo 0)), .val (.int p1), .val (.double q2), .second, .val (.int (-1 : Int32))] [(.ref (oo 0))])) rfl rfl (hb hby d4_60)
  refine EndsQ.go st106 ?_
  show EndsQ _ _ _ _ _ _ _ (T106.setTop (mkF m 63 #[.val (.ref (oo 0)), .val (.int p1), .val (.double q2), .second, .val (.int (-1 : Int32))] [(.int (0 : Int32))]))
  refine EndsQ.go (b := T106.setTop (mkF m 64 #[.val (.ref (oo 0)), .val (.int p1), .val (.double q2), .second, .val (.int (-1 : Int32))] [(.ref (oo 0)), (.int (0 : Int32))])) (fun t k => ?_) ?_
  · show Steps p.tables e below (T106.setTop (mkF m 63 #[.val (.ref (oo 0)), .val (.int p1), .val (.double q2), .second, .val (.int (-1 : Int32))] [(.int (0 : Int32))])) _
    refine XS.aloadN X106.here hx rfl (hb hby d4_63) rfl rfl ?_
    show Steps p.tables e below (T106.setTop (mkF m 64 #[.val (.ref (oo 0)), .val (.int p1), .val (.double q2), .second, .val (.int (-1 : Int32))] [(.ref (oo 0)), (.int (0 : Int32))])) _
    exact k
  obtain ⟨T107, X107, e107, st107⟩ := getF X106 hx hZ hown (host := "") (Or.inl (hw _ (List.mem_of_getElem? (i := 10) rfl))) Via.refl e106 SF_candidates (g := (mkF m 64 #[.val (.ref (oo 0)), .val (.int p1), .val (.double q2), .second, .val (.int (-1 : Int32))] [(.ref (oo 0)), (.int (0 : Int32))])) rfl rfl (hb hby d4_64)
  refine EndsQ.go st107 ?_
  show EndsQ _ _ _ _ _ _ _ (T107.setTop (mkF m 67 #[.val (.ref (oo 0)), .val (.int p1), .val (.double q2), .second, .val (.int (-1 : Int32))] [(.ref (oo 1)), (.int (0 : Int32))]))
  obtain ⟨cl108, Ar108, -, S108, M108, -, -⟩ := id SA_1
  refine EndsQ.go (fun t k => X107.arraylength hx (by rw [e107]; exact Ar108.1) (State.isArrayOf_alike hZ.alike Ar108.2.1) (g := (mkF m 67 #[.val (.ref (oo 0)), .val (.int p1), .val (.double q2), .second, .val (.int (-1 : Int32))] [(.ref (oo 1)), (.int (0 : Int32))])) rfl rfl (hb hby d4_67) _ k) ?_
  rw [len_of S108 M108]
  show EndsQ _ _ _ _ _ _ _ (T107.setTop (mkF m 68 #[.val (.ref (oo 0)), .val (.int p1), .val (.double q2), .second, .val (.int (-1 : Int32))] [(.int (16 : Int32)), (.int (0 : Int32))]))
  refine EndsQ.go (b := T107.setTop (mkF m 126 #[.val (.ref (oo 0)), .val (.int p1), .val (.double q2), .second, .val (.int (-1 : Int32))] [(.ref (oo 0)), (.ref (oo 0))])) (fun t k => ?_) ?_
  · show Steps p.tables e below (T107.setTop (mkF m 68 #[.val (.ref (oo 0)), .val (.int p1), .val (.double q2), .second, .val (.int (-1 : Int32))] [(.int (16 : Int32)), (.int (0 : Int32))])) _
    refine XS.icmpYes X107.here hx rfl (pc0 := 68) (pc' := 124) rfl (hb hby d4_68) rfl (feq (by decide)).2 (by decide) (by decide) ?_
    show Steps p.tables e below (T107.setTop (mkF m 124 #[.val (.ref (oo 0)), .val (.int p1), .val (.double q2), .second, .val (.int (-1 : Int32))] [])) _
    refine XS.aloadN X107.here hx rfl (hb hby d4_124) rfl rfl ?_
    refine XS.dup X107.here hx rfl (hb hby d4_125) rfl rfl ?_
    exact k
  obtain ⟨T109, X109, e109, st109⟩ := getF X107 hx hZ hown (host := "") (Or.inl (hw _ (List.mem_of_getElem? (i := 37) rfl))) Via.refl e107 SF_cnt (g := (mkF m 126 #[.val (.ref (oo 0)), .val (.int p1), .val (.double q2), .second, .val (.int (-1 : Int32))] [(.ref (oo 0)), (.ref (oo 0))])) rfl rfl (hb hby d4_126)
  refine EndsQ.go st109 ?_
  show EndsQ _ _ _ _ _ _ _ (T109.setTop (mkF m 129 #[.val (.ref (oo 0)), .val (.int p1), .val (.double q2), .second, .val (.int (-1 : Int32))] [(.int (0 : Int32)), (.ref (oo 0))]))
  refine EndsQ.go (b := T109.setTop (mkF m 132 #[.val (.ref (oo 0)), .val (.int p1), .val (.double q2), .second, .val (.int (-1 : Int32))] [(.int (1 : Int32)), (.ref (oo 0)), (.int (0 : Int32))])) (fun t k => ?_) ?_
  · show Steps p.tables e below (T109.setTop (mkF m 129 #[.val (.ref (oo 0)), .val (.int p1), .val (.double q2), .second, .val (.int (-1 : Int32))] [(.int (0 : Int32)), (.ref (oo 0))])) _
    refine XS.dupX1 X109.here hx rfl (hb hby d4_129) rfl rfl rfl ?_
    refine XS.iconst X109.here hx rfl (hb hby d4_130) ?_
    show Steps p.tables e below (T109.setTop (mkF m 131 #[.val (.ref (oo 0)), .val (.int p1), .val (.double q2), .second, .val (.int (-1 : Int32))] [(.int (1 : Int32)), (.int (0 : Int32)), (.ref (oo 0)), (.int (0 : Int32))])) _
    refine XS.iadd X109.here hx rfl (hb hby d4_131) rfl ?_
    show Steps p.tables e below (T109.setTop (mkF m 132 #[.val (.ref (oo 0)), .val (.int p1), .val (.double q2), .second, .val (.int (-1 : Int32))] [(.int ((0 : Int32) + (1 : Int32))), (.ref (oo 0)), (.int (0 : Int32))])) _
    rw [(by decide : ((0 : Int32) + (1 : Int32)) = (1 : Int32))]
    show Steps p.tables e below (T109.setTop (mkF m 132 #[.val (.ref (oo 0)), .val (.int p1), .val (.double q2), .second, .val (.int (-1 : Int32))] [(.int (1 : Int32)), (.ref (oo 0)), (.int (0 : Int32))])) _
    exact k
  obtain ⟨T110, h110, X110, e110, W110, st110⟩ := putF X109 hx hZ hown (host := "") (Or.inl (hw _ (List.mem_of_getElem? (i := 37) rfl))) Via.refl e109 SF_cnt SE (Or.inl (hw _ (List.mem_of_getElem? (i := 38) rfl))) (hw _ (List.mem_of_getElem? (i := 1) rfl)) (ty := .int) (by decide) rfl rfl (g := (mkF m 132 #[.val (.ref (oo 0)), .val (.int p1), .val (.double q2), .second, .val (.int (-1 : Int32))] [(.int (1 : Int32)), (.ref (oo 0)), (.int (0 : Int32))])) rfl rfl (hb hby d4_132)
  have fw110 : Fld Z h110 (oo 0) "com/example/physarum/physarum/Proposals" "candidateCount" "I" (.int (1 : Int32)) := SF_cnt.same W110
  have f111 := SE.wr W110
  have f112 := SF_candidates.other W110 (Or.inr (slot_ne (Or.inl (hw _ (List.mem_of_getElem? (i := 11) rfl))) (Or.inl (hw _ (List.mem_of_getElem? (i := 38) rfl))) (by decide) (t := (.array .int)) (t' := .int) (by decide) (by decide)))
  have f113 := SF_proposed.other W110 (Or.inr (slot_ne (Or.inl (hw _ (List.mem_of_getElem? (i := 13) rfl))) (Or.inl (hw _ (List.mem_of_getElem? (i := 38) rfl))) (by decide) (t := (.array .int)) (t' := .int) (by decide) (by decide)))
  have f114 := SF_confidences.other W110 (Or.inr (slot_ne (Or.inl (hw _ (List.mem_of_getElem? (i := 16) rfl))) (Or.inl (hw _ (List.mem_of_getElem? (i := 38) rfl))) (by decide) (t := (.array .double)) (t' := .int) (by decide) (by decide)))
  have f115 := SF_starts.other W110 (Or.inr (slot_ne (Or.inl (hw _ (List.mem_of_getElem? (i := 18) rfl))) (Or.inl (hw _ (List.mem_of_getElem? (i := 38) rfl))) (by decide) (t := (.array .int)) (t' := .int) (by decide) (by decide)))
  have f116 := SF_arranged.other W110 (Or.inr (slot_ne (Or.inl (hw _ (List.mem_of_getElem? (i := 20) rfl))) (Or.inl (hw _ (List.mem_of_getElem? (i := 38) rfl))) (by decide) (t := (.array .double)) (t' := .int) (by decide) (by decide)))
  have f117 := SF_taken.other W110 (Or.inr (slot_ne (Or.inl (hw _ (List.mem_of_getElem? (i := 22) rfl))) (Or.inl (hw _ (List.mem_of_getElem? (i := 38) rfl))) (by decide) (t := (.array .int)) (t' := .int) (by decide) (by decide)))
  have f118 := SF_indices.other W110 (Or.inr (slot_ne (Or.inr (hw _ (List.mem_of_getElem? (i := 24) rfl))) (Or.inl (hw _ (List.mem_of_getElem? (i := 38) rfl))) (by decide) (t := (.array .int)) (t' := .int) (by decide) (by decide)))
  have f119 := SF_sz.other W110 (Or.inr (slot_ne (Or.inl (hw _ (List.mem_of_getElem? (i := 36) rfl))) (Or.inl (hw _ (List.mem_of_getElem? (i := 38) rfl))) (by decide) (t := .int) (t' := .int) (by decide) (by decide)))
  have f120 := SA_1.other W110 (hne 1 0 (by decide) (by decide) (by decide))
  have f121 := SA_2.other W110 (hne 2 0 (by decide) (by decide) (by decide))
  have f122 := SA_3.other W110 (hne 3 0 (by decide) (by decide) (by decide))
  have f123 := SA_4.other W110 (hne 4 0 (by decide) (by decide) (by decide))
  have f124 := SA_5.other W110 (hne 5 0 (by decide) (by decide) (by decide))
  have f125 := SA_6.other W110 (hne 6 0 (by decide) (by decide) (by decide))
  have f126 := SA_7.other W110 (hne 7 0 (by decide) (by decide) (by decide))
  have f127 := Nat.le_trans Z0 (Keep.of_wr W110).1
  have N110 := Fr.snoc X110 N0 (hn 0 (by decide))
  refine EndsQ.go st110 ?_
  show EndsQ _ _ _ _ _ _ _ (T110.setTop (mkF m 135 #[.val (.ref (oo 0)), .val (.int p1), .val (.double q2), .second, .val (.int (-1 : Int32))] [(.int (0 : Int32))]))
  refine EndsQ.go (b := T110.setTop (mkF m 138 #[.val (.ref (oo 0)), .val (.int p1), .val (.double q2), .second, .val (.int (0 : Int32))] [(.ref (oo 0))])) (fun t k => ?_) ?_
  · show Steps p.tables e below (T110.setTop (mkF m 135 #[.val (.ref (oo 0)), .val (.int p1), .val (.double q2), .second, .val (.int (-1 : Int32))] [(.int (0 : Int32))])) _
    refine XS.istore X110.here hx rfl (hb hby d4_135) rfl (l' := #[.val (.ref (oo 0)), .val (.int p1), .val (.double q2), .second, .val (.int (0 : Int32))]) rfl ?_
    refine XS.aloadN X110.here hx rfl (hb hby d4_137) rfl rfl ?_
    exact k
  obtain ⟨T128, X128, e128, st128⟩ := getF X110 hx hZ hown (host := "") (Or.inl (hw _ (List.mem_of_getElem? (i := 23) rfl))) Via.refl e110 f118 (g := (mkF m 138 #[.val (.ref (oo 0)), .val (.int p1), .val (.double q2), .second, .val (.int (0 : Int32))] [(.ref (oo 0))])) rfl rfl (hb hby d4_138)
  refine EndsQ.go st128 ?_
  show EndsQ _ _ _ _ _ _ _ (T128.setTop (mkF m 141 #[.val (.ref (oo 0)), .val (.int p1), .val (.double q2), .second, .val (.int (0 : Int32))] [(.ref (oo 7))]))
  refine EndsQ.go (b := T128.setTop (mkF m 144 #[.val (.ref (oo 0)), .val (.int p1), .val (.double q2), .second, .val (.int (0 : Int32))] [(.int (0 : Int32)), (.int p1), (.ref (oo 7))])) (fun t k => ?_) ?_
  · show Steps p.tables e below (T128.setTop (mkF m 141 #[.val (.ref (oo 0)), .val (.int p1), .val (.double q2), .second, .val (.int (0 : Int32))] [(.ref (oo 7))])) _
    refine XS.iloadN X128.here hx rfl (hb hby d4_141) rfl ?_
    show Steps p.tables e below (T128.setTop (mkF m 142 #[.val (.ref (oo 0)), .val (.int p1), .val (.double q2), .second, .val (.int (0 : Int32))] [(.int p1), (.ref (oo 7))])) _
    refine XS.iload X128.here hx rfl (hb hby d4_142) rfl ?_
    exact k
  obtain ⟨cl129, Ar129, q129, S129, M129, H129, G129⟩ := id f126
  have hin129 : ¬ (p1 < 0 ∨ cl129.slots.size ≤ (p1).toNatClampNeg) := inb_of S129 hp
  obtain ⟨T129, h129, X129, e129, W129, st129⟩ := stI X128 hx hZ e128 Ar129 (j := p1) hin129 (g := (mkF m 144 #[.val (.ref (oo 0)), .val (.int p1), .val (.double q2), .second, .val (.int (0 : Int32))] [(.int (0 : Int32)), (.int p1), (.ref (oo 7))])) rfl rfl (hb hby d4_144)
  have fa129 : Arv Z h129 (oo 7) (kk 7) .int (4 : Int32) (vx.set (p1).toNatClampNeg (.int (0 : Int32))) (.int (0 : Int32)) := Arv.set Ar129 q129 S129 M129 H129 G129 rfl W129 _ rfl (by simp only [List.length_set, hvl]; exact own_lt4 p1 hp)
  have f130 := f111.wr W129
  have f131 := f112.other W129 (Or.inl (hne 0 7 (by decide) (by decide) (by decide)))
  have f132 := f113.other W129 (Or.inl (hne 0 7 (by decide) (by decide) (by decide)))
  have f133 := f114.other W129 (Or.inl (hne 0 7 (by decide) (by decide) (by decide)))
  have f134 := f115.other W129 (Or.inl (hne 0 7 (by decide) (by decide) (by decide)))
  have f135 := f116.other W129 (Or.inl (hne 0 7 (by decide) (by decide) (by decide)))
  have f136 := f117.other W129 (Or.inl (hne 0 7 (by decide) (by decide) (by decide)))
  have f137 := f118.other W129 (Or.inl (hne 0 7 (by decide) (by decide) (by decide)))
  have f138 := f119.other W129 (Or.inl (hne 0 7 (by decide) (by decide) (by decide)))
  have f139 := f120.other W129 (hne 1 7 (by decide) (by decide) (by decide))
  have f140 := f121.other W129 (hne 2 7 (by decide) (by decide) (by decide))
  have f141 := f122.other W129 (hne 3 7 (by decide) (by decide) (by decide))
  have f142 := f123.other W129 (hne 4 7 (by decide) (by decide) (by decide))
  have f143 := f124.other W129 (hne 5 7 (by decide) (by decide) (by decide))
  have f144 := f125.other W129 (hne 6 7 (by decide) (by decide) (by decide))
  have f145 := Nat.le_trans f127 (Keep.of_wr W129).1
  have f146 := fw110.other W129 (Or.inl (hne 0 7 (by decide) (by decide) (by decide)))
  have N129 := Fr.snoc X129 N110 (hn 7 (by decide))
  refine EndsQ.go st129 ?_
  show EndsQ _ _ _ _ _ _ _ (T129.setTop (mkF m 145 #[.val (.ref (oo 0)), .val (.int p1), .val (.double q2), .second, .val (.int (0 : Int32))] []))
  refine EndsQ.go (b := T129.setTop (mkF m 146 #[.val (.ref (oo 0)), .val (.int p1), .val (.double q2), .second, .val (.int (0 : Int32))] [(.ref (oo 0))])) (fun t k => ?_) ?_
  · show Steps p.tables e below (T129.setTop (mkF m 145 #[.val (.ref (oo 0)), .val (.int p1), .val (.double q2), .second, .val (.int (0 : Int32))] [])) _
    refine XS.aloadN X129.here hx rfl (hb hby d4_145) rfl rfl ?_
    exact k
  obtain ⟨T147, X147, e147, st147⟩ := getF X129 hx hZ hown (host := "") (Or.inl (hw _ (List.mem_of_getElem? (i := 10) rfl))) Via.refl e129 f131 (g := (mkF m 146 #[.val (.ref (oo 0)), .val (.int p1), .val (.double q2), .second, .val (.int (0 : Int32))] [(.ref (oo 0))])) rfl rfl (hb hby d4_146)
  refine EndsQ.go st147 ?_
  show EndsQ _ _ _ _ _ _ _ (T147.setTop (mkF m 149 #[.val (.ref (oo 0)), .val (.int p1), .val (.double q2), .second, .val (.int (0 : Int32))] [(.ref (oo 1))]))
  refine EndsQ.go (b := T147.setTop (mkF m 152 #[.val (.ref (oo 0)), .val (.int p1), .val (.double q2), .second, .val (.int (0 : Int32))] [(.int p1), (.int (0 : Int32)), (.ref (oo 1))])) (fun t k => ?_) ?_
  · show Steps p.tables e below (T147.setTop (mkF m 149 #[.val (.ref (oo 0)), .val (.int p1), .val (.double q2), .second, .val (.int (0 : Int32))] [(.ref (oo 1))])) _
    refine XS.iload X147.here hx rfl (hb hby d4_149) rfl ?_
    refine XS.iloadN X147.here hx rfl (hb hby d4_151) rfl ?_
    show Steps p.tables e below (T147.setTop (mkF m 152 #[.val (.ref (oo 0)), .val (.int p1), .val (.double q2), .second, .val (.int (0 : Int32))] [(.int p1), (.int (0 : Int32)), (.ref (oo 1))])) _
    exact k
  obtain ⟨cl148, Ar148, q148, S148, M148, H148, G148⟩ := id f139
  have hin148 : ¬ ((0 : Int32) < 0 ∨ cl148.slots.size ≤ ((0 : Int32)).toNatClampNeg) := inb_of S148 ⟨by decide, by decide⟩
  obtain ⟨T148, h148, X148, e148, W148, st148⟩ := stI X147 hx hZ e147 Ar148 (j := (0 : Int32)) hin148 (g := (mkF m 152 #[.val (.ref (oo 0)), .val (.int p1), .val (.double q2), .second, .val (.int (0 : Int32))] [(.int p1), (.int (0 : Int32)), (.ref (oo 1))])) rfl rfl (hb hby d4_152)
  have fa148 : Arv Z h148 (oo 1) (kk 1) .int (16 : Int32) [(.int p1), (.int c1), (.int c2)] (.int (0 : Int32)) := Arv.set Ar148 q148 S148 M148 H148 G148 rfl W148 0 rfl (Nat.le_of_ble_eq_true rfl)
  have f149 := f130.wr W148
  have f150 := f131.other W148 (Or.inl (hne 0 1 (by decide) (by decide) (by decide)))
  have f151 := f132.other W148 (Or.inl (hne 0 1 (by decide) (by decide) (by decide)))
  have f152 := f133.other W148 (Or.inl (hne 0 1 (by decide) (by decide) (by decide)))
  have f153 := f134.other W148 (Or.inl (hne 0 1 (by decide) (by decide) (by decide)))
  have f154 := f135.other W148 (Or.inl (hne 0 1 (by decide) (by decide) (by decide)))
  have f155 := f136.other W148 (Or.inl (hne 0 1 (by decide) (by decide) (by decide)))
  have f156 := f137.other W148 (Or.inl (hne 0 1 (by decide) (by decide) (by decide)))
  have f157 := f138.other W148 (Or.inl (hne 0 1 (by decide) (by decide) (by decide)))
  have f158 := f140.other W148 (hne 2 1 (by decide) (by decide) (by decide))
  have f159 := f141.other W148 (hne 3 1 (by decide) (by decide) (by decide))
  have f160 := f142.other W148 (hne 4 1 (by decide) (by decide) (by decide))
  have f161 := f143.other W148 (hne 5 1 (by decide) (by decide) (by decide))
  have f162 := f144.other W148 (hne 6 1 (by decide) (by decide) (by decide))
  have f163 := Nat.le_trans f145 (Keep.of_wr W148).1
  have f164 := f146.other W148 (Or.inl (hne 0 1 (by decide) (by decide) (by decide)))
  have f165 := fa129.other W148 (hne 7 1 (by decide) (by decide) (by decide))
  have N148 := Fr.snoc X148 N129 (hn 1 (by decide))
  refine EndsQ.go st148 ?_
  show EndsQ _ _ _ _ _ _ _ (T148.setTop (mkF m 153 #[.val (.ref (oo 0)), .val (.int p1), .val (.double q2), .second, .val (.int (0 : Int32))] []))
  refine EndsQ.go (b := T148.setTop (mkF m 154 #[.val (.ref (oo 0)), .val (.int p1), .val (.double q2), .second, .val (.int (0 : Int32))] [(.ref (oo 0))])) (fun t k => ?_) ?_
  · show Steps p.tables e below (T148.setTop (mkF m 153 #[.val (.ref (oo 0)), .val (.int p1), .val (.double q2), .second, .val (.int (0 : Int32))] [])) _
    refine XS.aloadN X148.here hx rfl (hb hby d4_153) rfl rfl ?_
    exact k
  obtain ⟨T166, X166, e166, st166⟩ := getF X148 hx hZ hown (host := "") (Or.inl (hw _ (List.mem_of_getElem? (i := 17) rfl))) Via.refl e148 f153 (g := (mkF m 154 #[.val (.ref (oo 0)), .val (.int p1), .val (.double q2), .second, .val (.int (0 : Int32))] [(.ref (oo 0))])) rfl rfl (hb hby d4_154)
  refine EndsQ.go st166 ?_
  show EndsQ _ _ _ _ _ _ _ (T166.setTop (mkF m 157 #[.val (.ref (oo 0)), .val (.int p1), .val (.double q2), .second, .val (.int (0 : Int32))] [(.ref (oo 4))]))
  refine EndsQ.go (b := T166.setTop (mkF m 160 #[.val (.ref (oo 0)), .val (.int p1), .val (.double q2), .second, .val (.int (0 : Int32))] [(.int (0 : Int32)), (.int (0 : Int32)), (.ref (oo 4))])) (fun t k => ?_) ?_
  · show Steps p.tables e below (T166.setTop (mkF m 157 #[.val (.ref (oo 0)), .val (.int p1), .val (.double q2), .second, .val (.int (0 : Int32))] [(.ref (oo 4))])) _
    refine XS.iload X166.here hx rfl (hb hby d4_157) rfl ?_
    refine XS.iconst X166.here hx rfl (hb hby d4_159) ?_
    exact k
  obtain ⟨cl167, Ar167, q167, S167, M167, H167, G167⟩ := id f160
  have hin167 : ¬ ((0 : Int32) < 0 ∨ cl167.slots.size ≤ ((0 : Int32)).toNatClampNeg) := inb_of S167 ⟨by decide, by decide⟩
  obtain ⟨T167, h167, X167, e167, W167, st167⟩ := stI X166 hx hZ e166 Ar167 (j := (0 : Int32)) hin167 (g := (mkF m 160 #[.val (.ref (oo 0)), .val (.int p1), .val (.double q2), .second, .val (.int (0 : Int32))] [(.int (0 : Int32)), (.int (0 : Int32)), (.ref (oo 4))])) rfl rfl (hb hby d4_160)
  have fa167 : Arv Z h167 (oo 4) (kk 4) .int (17 : Int32) [(.int (0 : Int32)), (.int s1), (.int s2)] (.int (0 : Int32)) := Arv.set Ar167 q167 S167 M167 H167 G167 rfl W167 0 rfl (Nat.le_of_ble_eq_true rfl)
  have f168 := f149.wr W167
  have f169 := f150.other W167 (Or.inl (hne 0 4 (by decide) (by decide) (by decide)))
  have f170 := f151.other W167 (Or.inl (hne 0 4 (by decide) (by decide) (by decide)))
  have f171 := f152.other W167 (Or.inl (hne 0 4 (by decide) (by decide) (by decide)))
  have f172 := f153.other W167 (Or.inl (hne 0 4 (by decide) (by decide) (by decide)))
  have f173 := f154.other W167 (Or.inl (hne 0 4 (by decide) (by decide) (by decide)))
  have f174 := f155.other W167 (Or.inl (hne 0 4 (by decide) (by decide) (by decide)))
  have f175 := f156.other W167 (Or.inl (hne 0 4 (by decide) (by decide) (by decide)))
  have f176 := f157.other W167 (Or.inl (hne 0 4 (by decide) (by decide) (by decide)))
  have f177 := f158.other W167 (hne 2 4 (by decide) (by decide) (by decide))
  have f178 := f159.other W167 (hne 3 4 (by decide) (by decide) (by decide))
  have f179 := f161.other W167 (hne 5 4 (by decide) (by decide) (by decide))
  have f180 := f162.other W167 (hne 6 4 (by decide) (by decide) (by decide))
  have f181 := Nat.le_trans f163 (Keep.of_wr W167).1
  have f182 := f164.other W167 (Or.inl (hne 0 4 (by decide) (by decide) (by decide)))
  have f183 := f165.other W167 (hne 7 4 (by decide) (by decide) (by decide))
  have f184 := fa148.other W167 (hne 1 4 (by decide) (by decide) (by decide))
  have N167 := Fr.snoc X167 N148 (hn 4 (by decide))
  refine EndsQ.go st167 ?_
  show EndsQ _ _ _ _ _ _ _ (T167.setTop (mkF m 161 #[.val (.ref (oo 0)), .val (.int p1), .val (.double q2), .second, .val (.int (0 : Int32))] []))
  refine EndsQ.go (b := T167.setTop (mkF m 162 #[.val (.ref (oo 0)), .val (.int p1), .val (.double q2), .second, .val (.int (0 : Int32))] [(.ref (oo 0))])) (fun t k => ?_) ?_
  · show Steps p.tables e below (T167.setTop (mkF m 161 #[.val (.ref (oo 0)), .val (.int p1), .val (.double q2), .second, .val (.int (0 : Int32))] [])) _
    refine XS.aloadN X167.here hx rfl (hb hby d4_161) rfl rfl ?_
    show Steps p.tables e below (T167.setTop (mkF m 162 #[.val (.ref (oo 0)), .val (.int p1), .val (.double q2), .second, .val (.int (0 : Int32))] [(.ref (oo 0))])) _
    exact k
  obtain ⟨T185, X185, e185, st185⟩ := getF X167 hx hZ hown (host := "") (Or.inl (hw _ (List.mem_of_getElem? (i := 12) rfl))) Via.refl e167 f170 (g := (mkF m 162 #[.val (.ref (oo 0)), .val (.int p1), .val (.double q2), .second, .val (.int (0 : Int32))] [(.ref (oo 0))])) rfl rfl (hb hby d4_162)
  refine EndsQ.go st185 ?_
  show EndsQ _ _ _ _ _ _ _ (T185.setTop (mkF m 165 #[.val (.ref (oo 0)), .val (.int p1), .val (.double q2), .second, .val (.int (0 : Int32))] [(.ref (oo 2))]))
  refine EndsQ.go (b := T185.setTop (mkF m 166 #[.val (.ref (oo 0)), .val (.int p1), .val (.double q2), .second, .val (.int (0 : Int32))] [(.ref (oo 0)), (.ref (oo 2))])) (fun t k => ?_) ?_
  · show Steps p.tables e below (T185.setTop (mkF m 165 #[.val (.ref (oo 0)), .val (.int p1), .val (.double q2), .second, .val (.int (0 : Int32))] [(.ref (oo 2))])) _
    refine XS.aloadN X185.here hx rfl (hb hby d4_165) rfl rfl ?_
    exact k
  obtain ⟨T186, X186, e186, st186⟩ := getF X185 hx hZ hown (host := "") (Or.inl (hw _ (List.mem_of_getElem? (i := 35) rfl))) Via.refl e185 f176 (g := (mkF m 166 #[.val (.ref (oo 0)), .val (.int p1), .val (.double q2), .second, .val (.int (0 : Int32))] [(.ref (oo 0)), (.ref (oo 2))])) rfl rfl (hb hby d4_166)
  refine EndsQ.go st186 ?_
  show EndsQ _ _ _ _ _ _ _ (T186.setTop (mkF m 169 #[.val (.ref (oo 0)), .val (.int p1), .val (.double q2), .second, .val (.int (0 : Int32))] [(.int (0 : Int32)), (.ref (oo 2))]))
  refine EndsQ.go (b := T186.setTop (mkF m 171 #[.val (.ref (oo 0)), .val (.int p1), .val (.double q2), .second, .val (.int (0 : Int32))] [(.int (0 : Int32)), (.int (0 : Int32)), (.ref (oo 2))])) (fun t k => ?_) ?_
  · show Steps p.tables e below (T186.setTop (mkF m 169 #[.val (.ref (oo 0)), .val (.int p1), .val (.double q2), .second, .val (.int (0 : Int32))] [(.int (0 : Int32)), (.ref (oo 2))])) _
    refine XS.iload X186.here hx rfl (hb hby d4_169) rfl ?_
    exact k
  obtain ⟨cl187, Ar187, q187, S187, M187, H187, G187⟩ := id f177
  have hin187 : ¬ ((0 : Int32) < 0 ∨ cl187.slots.size ≤ ((0 : Int32)).toNatClampNeg) := inb_of S187 ⟨by decide, by decide⟩
  obtain ⟨T187, h187, X187, e187, W187, st187⟩ := stI X186 hx hZ e186 Ar187 (j := (0 : Int32)) hin187 (g := (mkF m 171 #[.val (.ref (oo 0)), .val (.int p1), .val (.double q2), .second, .val (.int (0 : Int32))] [(.int (0 : Int32)), (.int (0 : Int32)), (.ref (oo 2))])) rfl rfl (hb hby d4_171)
  have fa187 : Arv Z h187 (oo 2) (kk 2) .int (64 : Int32) [(.int (0 : Int32)), (.int r1), (.int r2)] (.int (0 : Int32)) := Arv.set Ar187 q187 S187 M187 H187 G187 rfl W187 0 rfl (Nat.le_of_ble_eq_true rfl)
  have f188 := f168.wr W187
  have f189 := f169.other W187 (Or.inl (hne 0 2 (by decide) (by decide) (by decide)))
  have f190 := f170.other W187 (Or.inl (hne 0 2 (by decide) (by decide) (by decide)))
  have f191 := f171.other W187 (Or.inl (hne 0 2 (by decide) (by decide) (by decide)))
  have f192 := f172.other W187 (Or.inl (hne 0 2 (by decide) (by decide) (by decide)))
  have f193 := f173.other W187 (Or.inl (hne 0 2 (by decide) (by decide) (by decide)))
  have f194 := f174.other W187 (Or.inl (hne 0 2 (by decide) (by decide) (by decide)))
  have f195 := f175.other W187 (Or.inl (hne 0 2 (by decide) (by decide) (by decide)))
  have f196 := f176.other W187 (Or.inl (hne 0 2 (by decide) (by decide) (by decide)))
  have f197 := f178.other W187 (hne 3 2 (by decide) (by decide) (by decide))
  have f198 := f179.other W187 (hne 5 2 (by decide) (by decide) (by decide))
  have f199 := f180.other W187 (hne 6 2 (by decide) (by decide) (by decide))
  have f200 := Nat.le_trans f181 (Keep.of_wr W187).1
  have f201 := f182.other W187 (Or.inl (hne 0 2 (by decide) (by decide) (by decide)))
  have f202 := f183.other W187 (hne 7 2 (by decide) (by decide) (by decide))
  have f203 := f184.other W187 (hne 1 2 (by decide) (by decide) (by decide))
  have f204 := fa167.other W187 (hne 4 2 (by decide) (by decide) (by decide))
  have N187 := Fr.snoc X187 N167 (hn 2 (by decide))
  refine EndsQ.go st187 ?_
  show EndsQ _ _ _ _ _ _ _ (T187.setTop (mkF m 172 #[.val (.ref (oo 0)), .val (.int p1), .val (.double q2), .second, .val (.int (0 : Int32))] []))
  refine EndsQ.go (b := T187.setTop (mkF m 173 #[.val (.ref (oo 0)), .val (.int p1), .val (.double q2), .second, .val (.int (0 : Int32))] [(.ref (oo 0))])) (fun t k => ?_) ?_
  · show Steps p.tables e below (T187.setTop (mkF m 172 #[.val (.ref (oo 0)), .val (.int p1), .val (.double q2), .second, .val (.int (0 : Int32))] [])) _
    refine XS.aloadN X187.here hx rfl (hb hby d4_172) rfl rfl ?_
    exact k
  obtain ⟨T205, X205, e205, st205⟩ := getF X187 hx hZ hown (host := "") (Or.inl (hw _ (List.mem_of_getElem? (i := 15) rfl))) Via.refl e187 f191 (g := (mkF m 173 #[.val (.ref (oo 0)), .val (.int p1), .val (.double q2), .second, .val (.int (0 : Int32))] [(.ref (oo 0))])) rfl rfl (hb hby d4_173)
  refine EndsQ.go st205 ?_
  show EndsQ _ _ _ _ _ _ _ (T205.setTop (mkF m 176 #[.val (.ref (oo 0)), .val (.int p1), .val (.double q2), .second, .val (.int (0 : Int32))] [(.ref (oo 3))]))
  refine EndsQ.go (b := T205.setTop (mkF m 177 #[.val (.ref (oo 0)), .val (.int p1), .val (.double q2), .second, .val (.int (0 : Int32))] [(.ref (oo 0)), (.ref (oo 3))])) (fun t k => ?_) ?_
  · show Steps p.tables e below (T205.setTop (mkF m 176 #[.val (.ref (oo 0)), .val (.int p1), .val (.double q2), .second, .val (.int (0 : Int32))] [(.ref (oo 3))])) _
    refine XS.aloadN X205.here hx rfl (hb hby d4_176) rfl rfl ?_
    show Steps p.tables e below (T205.setTop (mkF m 177 #[.val (.ref (oo 0)), .val (.int p1), .val (.double q2), .second, .val (.int (0 : Int32))] [(.ref (oo 0)), (.ref (oo 3))])) _
    exact k
  obtain ⟨T206, X206, e206, st206⟩ := getF X205 hx hZ hown (host := "") (Or.inl (hw _ (List.mem_of_getElem? (i := 35) rfl))) Via.refl e205 f196 (g := (mkF m 177 #[.val (.ref (oo 0)), .val (.int p1), .val (.double q2), .second, .val (.int (0 : Int32))] [(.ref (oo 0)), (.ref (oo 3))])) rfl rfl (hb hby d4_177)
  refine EndsQ.go st206 ?_
  show EndsQ _ _ _ _ _ _ _ (T206.setTop (mkF m 180 #[.val (.ref (oo 0)), .val (.int p1), .val (.double q2), .second, .val (.int (0 : Int32))] [(.int (0 : Int32)), (.ref (oo 3))]))
  refine EndsQ.go (b := T206.setTop (mkF m 181 #[.val (.ref (oo 0)), .val (.int p1), .val (.double q2), .second, .val (.int (0 : Int32))] [(.double q2), (.int (0 : Int32)), (.ref (oo 3))])) (fun t k => ?_) ?_
  · show Steps p.tables e below (T206.setTop (mkF m 180 #[.val (.ref (oo 0)), .val (.int p1), .val (.double q2), .second, .val (.int (0 : Int32))] [(.int (0 : Int32)), (.ref (oo 3))])) _
    refine XS.dloadN X206.here hx rfl (hb hby d4_180) rfl ?_
    exact k
  obtain ⟨cl207, Ar207, q207, S207, M207, H207, G207⟩ := id f197
  have hin207 : ¬ ((0 : Int32) < 0 ∨ cl207.slots.size ≤ ((0 : Int32)).toNatClampNeg) := inb_of S207 ⟨by decide, by decide⟩
  obtain ⟨T207, h207, X207, e207, W207, st207⟩ := stD X206 hx hZ e206 Ar207 (j := (0 : Int32)) hin207 (g := (mkF m 181 #[.val (.ref (oo 0)), .val (.int p1), .val (.double q2), .second, .val (.int (0 : Int32))] [(.double q2), (.int (0 : Int32)), (.ref (oo 3))])) rfl rfl (hb hby d4_181)
  have fa207 : Arv Z h207 (oo 3) (kk 3) .double (64 : Int32) [(.double q2), (.double d1), (.double d2)] (.double (0 : UInt64)) := Arv.set Ar207 q207 S207 M207 H207 G207 rfl W207 0 rfl (Nat.le_of_ble_eq_true rfl)
  have f208 := f188.wr W207
  have f209 := f189.other W207 (Or.inl (hne 0 3 (by decide) (by decide) (by decide)))
  have f210 := f190.other W207 (Or.inl (hne 0 3 (by decide) (by decide) (by decide)))
  have f211 := f191.other W207 (Or.inl (hne 0 3 (by decide) (by decide) (by decide)))
  have f212 := f192.other W207 (Or.inl (hne 0 3 (by decide) (by decide) (by decide)))
  have f213 := f193.other W207 (Or.inl (hne 0 3 (by decide) (by decide) (by decide)))
  have f214 := f194.other W207 (Or.inl (hne 0 3 (by decide) (by decide) (by decide)))
  have f215 := f195.other W207 (Or.inl (hne 0 3 (by decide) (by decide) (by decide)))
  have f216 := f196.other W207 (Or.inl (hne 0 3 (by decide) (by decide) (by decide)))
  have f217 := f198.other W207 (hne 5 3 (by decide) (by decide) (by decide))
  have f218 := f199.other W207 (hne 6 3 (by decide) (by decide) (by decide))
  have f219 := Nat.le_trans f200 (Keep.of_wr W207).1
  have f220 := f201.other W207 (Or.inl (hne 0 3 (by decide) (by decide) (by decide)))
  have f221 := f202.other W207 (hne 7 3 (by decide) (by decide) (by decide))
  have f222 := f203.other W207 (hne 1 3 (by decide) (by decide) (by decide))
  have f223 := f204.other W207 (hne 4 3 (by decide) (by decide) (by decide))
  have f224 := fa187.other W207 (hne 2 3 (by decide) (by decide) (by decide))
  have N207 := Fr.snoc X207 N187 (hn 3 (by decide))
  refine EndsQ.go st207 ?_
  show EndsQ _ _ _ _ _ _ _ (T207.setTop (mkF m 182 #[.val (.ref (oo 0)), .val (.int p1), .val (.double q2), .second, .val (.int (0 : Int32))] []))
  refine EndsQ.go (b := T207.setTop (mkF m 183 #[.val (.ref (oo 0)), .val (.int p1), .val (.double q2), .second, .val (.int (0 : Int32))] [(.ref (oo 0))])) (fun t k => ?_) ?_
  · show Steps p.tables e below (T207.setTop (mkF m 182 #[.val (.ref (oo 0)), .val (.int p1), .val (.double q2), .second, .val (.int (0 : Int32))] [])) _
    refine XS.aloadN X207.here hx rfl (hb hby d4_182) rfl rfl ?_
    exact k
  obtain ⟨T225, X225, e225, st225⟩ := getF X207 hx hZ hown (host := "") (Or.inl (hw _ (List.mem_of_getElem? (i := 17) rfl))) Via.refl e207 f212 (g := (mkF m 183 #[.val (.ref (oo 0)), .val (.int p1), .val (.double q2), .second, .val (.int (0 : Int32))] [(.ref (oo 0))])) rfl rfl (hb hby d4_183)
  refine EndsQ.go st225 ?_
  show EndsQ _ _ _ _ _ _ _ (T225.setTop (mkF m 186 #[.val (.ref (oo 0)), .val (.int p1), .val (.double q2), .second, .val (.int (0 : Int32))] [(.ref (oo 4))]))
  refine EndsQ.go (b := T225.setTop (mkF m 189 #[.val (.ref (oo 0)), .val (.int p1), .val (.double q2), .second, .val (.int (0 : Int32))] [(.int (0 : Int32)), (.ref (oo 4)), (.int (0 : Int32)), (.ref (oo 4))])) (fun t k => ?_) ?_
  · show Steps p.tables e below (T225.setTop (mkF m 186 #[.val (.ref (oo 0)), .val (.int p1), .val (.double q2), .second, .val (.int (0 : Int32))] [(.ref (oo 4))])) _
    refine XS.iload X225.here hx rfl (hb hby d4_186) rfl ?_
    refine Jvm.Free.XT.dup2 X225.here hx rfl (hb hby d4_188) rfl rfl rfl ?_
    show Steps p.tables e below (T225.setTop (mkF m 189 #[.val (.ref (oo 0)), .val (.int p1), .val (.double q2), .second, .val (.int (0 : Int32))] [(.int (0 : Int32)), (.ref (oo 4)), (.int (0 : Int32)), (.ref (oo 4))])) _
    exact k
  obtain ⟨cl226, Ar226, q226, S226, M226, H226, G226⟩ := id f223
  have hin226 : ¬ ((0 : Int32) < 0 ∨ cl226.slots.size ≤ ((0 : Int32)).toNatClampNeg) := inb_of S226 ⟨by decide, by decide⟩
  have hat226 : cl226.slots[((0 : Int32)).toNatClampNeg]? = some (.int (0 : Int32)) := Has.at H226 hin226 rfl
  refine EndsQ.go (fun t k => X225.iaload hx (j := (0 : Int32)) (v := (.int (0 : Int32))) (by rw [e225]; exact Ar226.1) (State.isArrayOf_alike hZ.alike Ar226.2.1) Ar226.2.2 hin226 hat226 (g := (mkF m 189 #[.val (.ref (oo 0)), .val (.int p1), .val (.double q2), .second, .val (.int (0 : Int32))] [(.int (0 : Int32)), (.ref (oo 4)), (.int (0 : Int32)), (.ref (oo 4))])) rfl rfl (hb hby d4_189) _ k) ?_
  show EndsQ _ _ _ _ _ _ _ (T225.setTop (mkF m 190 #[.val (.ref (oo 0)), .val (.int p1), .val (.double q2), .second, .val (.int (0 : Int32))] [(.int (0 : Int32)), (.int (0 : Int32)), (.ref (oo 4))]))
  refine EndsQ.go (b := T225.setTop (mkF m 192 #[.val (.ref (oo 0)), .val (.int p1), .val (.double q2), .second, .val (.int (0 : Int32))] [(.int (1 : Int32)), (.int (0 : Int32)), (.ref (oo 4))])) (fun t k => ?_) ?_
  · show Steps p.tables e below (T225.setTop (mkF m 190 #[.val (.ref (oo 0)), .val (.int p1), .val (.double q2), .second, .val (.int (0 : Int32))] [(.int (0 : Int32)), (.int (0 : Int32)), (.ref (oo 4))])) _
    refine XS.iconst X225.here hx rfl (hb hby d4_190) ?_
    refine XS.iadd X225.here hx rfl (hb hby d4_191) rfl ?_
    show Steps p.tables e below (T225.setTop (mkF m 192 #[.val (.ref (oo 0)), .val (.int p1), .val (.double q2), .second, .val (.int (0 : Int32))] [(.int ((0 : Int32) + (1 : Int32))), (.int (0 : Int32)), (.ref (oo 4))])) _
    rw [(by decide : ((0 : Int32) + (1 : Int32)) = (1 : Int32))]
    show Steps p.tables e below (T225.setTop (mkF m 192 #[.val (.ref (oo 0)), .val (.int p1), .val (.double q2), .second, .val (.int (0 : Int32))] [(.int (1 : Int32)), (.int (0 : Int32)), (.ref (oo 4))])) _
    exact k
  obtain ⟨cl227, Ar227, q227, S227, M227, H227, G227⟩ := id f223
  have hin227 : ¬ ((0 : Int32) < 0 ∨ cl227.slots.size ≤ ((0 : Int32)).toNatClampNeg) := inb_of S227 ⟨by decide, by decide⟩
  obtain ⟨T227, h227, X227, e227, W227, st227⟩ := stI X225 hx hZ e225 Ar227 (j := (0 : Int32)) hin227 (g := (mkF m 192 #[.val (.ref (oo 0)), .val (.int p1), .val (.double q2), .second, .val (.int (0 : Int32))] [(.int (1 : Int32)), (.int (0 : Int32)), (.ref (oo 4))])) rfl rfl (hb hby d4_192)
  have fa227 : Arv Z h227 (oo 4) (kk 4) .int (17 : Int32) [(.int (1 : Int32)), (.int s1), (.int s2)] (.int (0 : Int32)) := Arv.set Ar227 q227 S227 M227 H227 G227 rfl W227 0 rfl (Nat.le_of_ble_eq_true rfl)
  have f228 := f208.wr W227
  have f229 := f209.other W227 (Or.inl (hne 0 4 (by decide) (by decide) (by decide)))
  have f230 := f210.other W227 (Or.inl (hne 0 4 (by decide) (by decide) (by decide)))
  have f231 := f211.other W227 (Or.inl (hne 0 4 (by decide) (by decide) (by decide)))
  have f232 := f212.other W227 (Or.inl (hne 0 4 (by decide) (by decide) (by decide)))
  have f233 := f213.other W227 (Or.inl (hne 0 4 (by decide) (by decide) (by decide)))
  have f234 := f214.other W227 (Or.inl (hne 0 4 (by decide) (by decide) (by decide)))
  have f235 := f215.other W227 (Or.inl (hne 0 4 (by decide) (by decide) (by decide)))
  have f236 := f216.other W227 (Or.inl (hne 0 4 (by decide) (by decide) (by decide)))
  have f237 := f217.other W227 (hne 5 4 (by decide) (by decide) (by decide))
  have f238 := f218.other W227 (hne 6 4 (by decide) (by decide) (by decide))
  have f239 := Nat.le_trans f219 (Keep.of_wr W227).1
  have f240 := f220.other W227 (Or.inl (hne 0 4 (by decide) (by decide) (by decide)))
  have f241 := f221.other W227 (hne 7 4 (by decide) (by decide) (by decide))
  have f242 := f222.other W227 (hne 1 4 (by decide) (by decide) (by decide))
  have f243 := f224.other W227 (hne 2 4 (by decide) (by decide) (by decide))
  have f244 := fa207.other W227 (hne 3 4 (by decide) (by decide) (by decide))
  have N227 := Fr.snoc X227 N207 (hn 4 (by decide))
  refine EndsQ.go st227 ?_
  show EndsQ _ _ _ _ _ _ _ (T227.setTop (mkF m 193 #[.val (.ref (oo 0)), .val (.int p1), .val (.double q2), .second, .val (.int (0 : Int32))] []))
  refine EndsQ.go (b := T227.setTop (mkF m 195 #[.val (.ref (oo 0)), .val (.int p1), .val (.double q2), .second, .val (.int (0 : Int32))] [(.ref (oo 0)), (.ref (oo 0))])) (fun t k => ?_) ?_
  · show Steps p.tables e below (T227.setTop (mkF m 193 #[.val (.ref (oo 0)), .val (.int p1), .val (.double q2), .second, .val (.int (0 : Int32))] [])) _
    refine XS.aloadN X227.here hx rfl (hb hby d4_193) rfl rfl ?_
    refine XS.dup X227.here hx rfl (hb hby d4_194) rfl rfl ?_
    show Steps p.tables e below (T227.setTop (mkF m 195 #[.val (.ref (oo 0)), .val (.int p1), .val (.double q2), .second, .val (.int (0 : Int32))] [(.ref (oo 0)), (.ref (oo 0))])) _
    exact k
  obtain ⟨T245, X245, e245, st245⟩ := getF X227 hx hZ hown (host := "") (Or.inl (hw _ (List.mem_of_getElem? (i := 35) rfl))) Via.refl e227 f236 (g := (mkF m 195 #[.val (.ref (oo 0)), .val (.int p1), .val (.double q2), .second, .val (.int (0 : Int32))] [(.ref (oo 0)), (.ref (oo 0))])) rfl rfl (hb hby d4_195)
  refine EndsQ.go st245 ?_
  show EndsQ _ _ _ _ _ _ _ (T245.setTop (mkF m 198 #[.val (.ref (oo 0)), .val (.int p1), .val (.double q2), .second, .val (.int (0 : Int32))] [(.int (0 : Int32)), (.ref (oo 0))]))
  refine EndsQ.go (b := T245.setTop (mkF m 200 #[.val (.ref (oo 0)), .val (.int p1), .val (.double q2), .second, .val (.int (0 : Int32))] [(.int (1 : Int32)), (.ref (oo 0))])) (fun t k => ?_) ?_
  · show Steps p.tables e below (T245.setTop (mkF m 198 #[.val (.ref (oo 0)), .val (.int p1), .val (.double q2), .second, .val (.int (0 : Int32))] [(.int (0 : Int32)), (.ref (oo 0))])) _
    refine XS.iconst X245.here hx rfl (hb hby d4_198) ?_
    refine XS.iadd X245.here hx rfl (hb hby d4_199) rfl ?_
    show Steps p.tables e below (T245.setTop (mkF m 200 #[.val (.ref (oo 0)), .val (.int p1), .val (.double q2), .second, .val (.int (0 : Int32))] [(.int ((0 : Int32) + (1 : Int32))), (.ref (oo 0))])) _
    rw [(by decide : ((0 : Int32) + (1 : Int32)) = (1 : Int32))]
    show Steps p.tables e below (T245.setTop (mkF m 200 #[.val (.ref (oo 0)), .val (.int p1), .val (.double q2), .second, .val (.int (0 : Int32))] [(.int (1 : Int32)), (.ref (oo 0))])) _
    exact k
  obtain ⟨T246, h246, X246, e246, W246, st246⟩ := putF X245 hx hZ hown (host := "") (Or.inl (hw _ (List.mem_of_getElem? (i := 35) rfl))) Via.refl e245 f236 f228 (Or.inl (hw _ (List.mem_of_getElem? (i := 36) rfl))) (hw _ (List.mem_of_getElem? (i := 1) rfl)) (ty := .int) (by decide) rfl rfl (g := (mkF m 200 #[.val (.ref (oo 0)), .val (.int p1), .val (.double q2), .second, .val (.int (0 : Int32))] [(.int (1 : Int32)), (.ref (oo 0))])) rfl rfl (hb hby d4_200)
  have fw246 : Fld Z h246 (oo 0) "com/example/physarum/physarum/Proposals" "size" "I" (.int (1 : Int32)) := f236.same W246
  have f247 := f228.wr W246
  have f248 := f229.other W246 (Or.inr (slot_ne (Or.inl (hw _ (List.mem_of_getElem? (i := 11) rfl))) (Or.inl (hw _ (List.mem_of_getElem? (i := 36) rfl))) (by decide) (t := (.array .int)) (t' := .int) (by decide) (by decide)))
  have f249 := f230.other W246 (Or.inr (slot_ne (Or.inl (hw _ (List.mem_of_getElem? (i := 13) rfl))) (Or.inl (hw _ (List.mem_of_getElem? (i := 36) rfl))) (by decide) (t := (.array .int)) (t' := .int) (by decide) (by decide)))
  have f250 := f231.other W246 (Or.inr (slot_ne (Or.inl (hw _ (List.mem_of_getElem? (i := 16) rfl))) (Or.inl (hw _ (List.mem_of_getElem? (i := 36) rfl))) (by decide) (t := (.array .double)) (t' := .int) (by decide) (by decide)))
  have f251 := f232.other W246 (Or.inr (slot_ne (Or.inl (hw _ (List.mem_of_getElem? (i := 18) rfl))) (Or.inl (hw _ (List.mem_of_getElem? (i := 36) rfl))) (by decide) (t := (.array .int)) (t' := .int) (by decide) (by decide)))
  have f252 := f233.other W246 (Or.inr (slot_ne (Or.inl (hw _ (List.mem_of_getElem? (i := 20) rfl))) (Or.inl (hw _ (List.mem_of_getElem? (i := 36) rfl))) (by decide) (t := (.array .double)) (t' := .int) (by decide) (by decide)))
  have f253 := f234.other W246 (Or.inr (slot_ne (Or.inl (hw _ (List.mem_of_getElem? (i := 22) rfl))) (Or.inl (hw _ (List.mem_of_getElem? (i := 36) rfl))) (by decide) (t := (.array .int)) (t' := .int) (by decide) (by decide)))
  have f254 := f235.other W246 (Or.inr (slot_ne (Or.inr (hw _ (List.mem_of_getElem? (i := 24) rfl))) (Or.inl (hw _ (List.mem_of_getElem? (i := 36) rfl))) (by decide) (t := (.array .int)) (t' := .int) (by decide) (by decide)))
  have f255 := f237.other W246 (hne 5 0 (by decide) (by decide) (by decide))
  have f256 := f238.other W246 (hne 6 0 (by decide) (by decide) (by decide))
  have f257 := Nat.le_trans f239 (Keep.of_wr W246).1
  have f258 := f240.other W246 (Or.inr (slot_ne (Or.inl (hw _ (List.mem_of_getElem? (i := 38) rfl))) (Or.inl (hw _ (List.mem_of_getElem? (i := 36) rfl))) (by decide) (t := .int) (t' := .int) (by decide) (by decide)))
  have f259 := f241.other W246 (hne 7 0 (by decide) (by decide) (by decide))
  have f260 := f242.other W246 (hne 1 0 (by decide) (by decide) (by decide))
  have f261 := f243.other W246 (hne 2 0 (by decide) (by decide) (by decide))
  have f262 := f244.other W246 (hne 3 0 (by decide) (by decide) (by decide))
  have f263 := fa227.other W246 (hne 4 0 (by decide) (by decide) (by decide))
  have N246 := Fr.snoc X246 N227 (hn 0 (by decide))
  refine EndsQ.go st246 ?_
  show EndsQ _ _ _ _ _ _ _ (T246.setTop (mkF m 203 #[.val (.ref (oo 0)), .val (.int p1), .val (.double q2), .second, .val (.int (0 : Int32))] []))
  refine EndsQ.retV X246 hx Bd.notSynchronized Bd.returns (hb hby d4_203) (by decide) (by decide) ?_
  show QAddN0 Z p1 q2 oo kk c0 c1 c2 r0 r1 r2 d0 d1 d2 s0 s1 s2 g0 g1 g2 t0 t1 t2 vx h0 n0 (none) T246.heap _
  rw [e246]
  exact ⟨rfl, N246, f257, ⟨f247, f248, f249, f250, f251, f252, f253, f254, f258, fw246, f260, f261, f262, f263, f255, f256, f259⟩⟩
theorem ef_AddN1 (m : MethodId) (x0 : Addr) (x1 : Int32) (x2 : UInt64) : entryFrame m #[(.ref x0), (.int x1), (.double x2)] 5 = mkF m 0 #[.val (.ref x0), .val (.int x1), .val (.double x2), .second, .unset] [] := by first | (simp [entryFrame, mkF, argsToLocals, Value.category]; done) | rfl
def QAddN1 (Z : State) (p1 : Int32) (q2 : UInt64) (oo : Nat → Addr) (kk : Nat → ClassId) (c0 : Int32) (c1 : Int32) (c2 : Int32) (r0 : Int32) (r1 : Int32) (r2 : Int32) (d0 : UInt64) (d1 : UInt64) (d2 : UInt64) (s1 : Int32) (s2 : Int32) (g0 : UInt64) (g1 : UInt64) (g2 : UInt64) (t0 : Int32) (t1 : Int32) (t2 : Int32) (vx : List Value) (h0 : Heap) (n0 : Nat) (v : Option Value) (h : Heap) (L : List Loc) : Prop := v = none ∧ Fr n0 L ∧ n0 ≤ h.size ∧ own_St Z h oo kk (2 : Int32) (2 : Int32) [(.int c0), (.int p1), (.int c2)] [(.int r0), (.int (1 : Int32)), (.int r2)] [(.double d0), (.double q2), (.double d2)] [(.int (1 : Int32)), (.int (1 : Int32)), (.int s2)] [(.double g0), (.double g1), (.double g2)] [(.int t0), (.int t1), (.int t2)] (vx.set (p1).toNatClampNeg (.int (1 : Int32)))
set_option maxRecDepth 65536 in
set_option maxHeartbeats 40000000 in
theorem rmAddN1 (l : Launch) (Z : State) (a0 : Array Value) (hw : ∀ d ∈ tables_1, d.before a0 Z = true) (ws : List Jvm.Cond) (p1 : Int32) (q2 : UInt64) (oo : Nat → Addr) (kk : Nat → ClassId) (c0 : Int32) (c1 : Int32) (c2 : Int32) (r0 : Int32) (r1 : Int32) (r2 : Int32) (d0 : UInt64) (d1 : UInt64) (d2 : UInt64) (s1 : Int32) (s2 : Int32) (g0 : UInt64) (g1 : UInt64) (g2 : UInt64) (t0 : Int32) (t1 : Int32) (t2 : Int32) (vx : List Value) (h0 : Heap) (n0 : Nat) (Z0 : n0 ≤ h0.size) (hne : own_ne oo) (hn : own_nn n0 oo) (HS : own_St Z h0 oo kk (1 : Int32) (1 : Int32) [(.int c0), (.int c1), (.int c2)] [(.int r0), (.int r1), (.int r2)] [(.double d0), (.double d1), (.double d2)] [(.int (1 : Int32)), (.int s1), (.int s2)] [(.double g0), (.double g1), (.double g2)] [(.int t0), (.int t1), (.int t2)] vx) (hvl : vx.length = 4) (hp : ¬ p1 < (0 : Int32) ∧ p1 < (4 : Int32)) (hix : vx.getD p1.toNatClampNeg (.int (0 : Int32)) = .int (-1 : Int32)) :
    MetFree l (⟨"com/example/physarum/physarum/Proposals", "add", "(ID)V"⟩ : MethodName) (head1 (Jvm.Cond.code (⟨"com/example/physarum/physarum/Proposals", "add", "(ID)V"⟩ : MethodName) prog_44_method_3_code 5 none :: ws) ({ frames := 0, cells := 0, slots := 0, locals := 0 } : Room)) (fun a U => a = #[(.ref (oo 0)), (.int p1), (.double q2)] ∧ Z.Warmed39 U.vm ∧ U.heap = h0) (fun _ _ _ _ _ => True) (fun _ U o U' => ∃ v L, o = .returned v ∧ QAddN1 Z p1 q2 oo kk c0 c1 c2 r0 r1 r2 d0 d1 d2 s1 s2 g0 g1 g2 t0 t1 t2 vx h0 n0 v U'.heap L ∧ FrameEnd U o U' L ({ frames := 0, cells := 0, slots := 0, locals := 0 } : Room).cells ({ frames := 0, cells := 0, slots := 0, locals := 0 } : Room).slots) := by
  refine MetFree.of_bodySF (plainFor_of_name pn_4) hisR ?_
  intro p e s m args below meth c s₁ Bd hml0 hP hK
  obtain ⟨rfl, hZ, hh⟩ := hP
  have hx := Bd.exec
  have hby := Bd.bytes
  have hml : c.maxLocals = 5 := hml0
  have hown : s.vm.findClass "com/example/physarum/physarum/Proposals" = some m.cls := findClass_of_methodNamed Bd.named
  have hnm := (name_of_methodNamed Bd.named Bd.method).1
  have X0 : Stand p l e ({ frames := 0, cells := 0, slots := 0, locals := 0 } : Room) s m #[(.ref (oo 0)), (.int p1), (.double q2)] below meth c s₁ [] 0 0 := Stand.of_body Bd
  have e0 : s₁.heap = h0 := by rw [← hh, Bd.state]; rfl
  have N0 := Fr.nil n0
  show EndsQ p.tables e below s (fun v h L => QAddN1 Z p1 q2 oo kk c0 c1 c2 r0 r1 r2 d0 d1 d2 s1 s2 g0 g1 g2 t0 t1 t2 vx h0 n0 v h L) ({ frames := 0, cells := 0, slots := 0, locals := 0 } : Room).cells ({ frames := 0, cells := 0, slots := 0, locals := 0 } : Room).slots _
  refine EndsQ.go (b := s₁.setTop (mkF m 0 #[.val (.ref (oo 0)), .val (.int p1), .val (.double q2), .second, .unset] [])) (fun t k => castTop (ef_AddN1 m (oo 0) p1 q2) k) ?_
  have HS0 := HS
  obtain ⟨SE, SF_candidates, SF_proposed, SF_confidences, SF_starts, SF_arranged, SF_taken, SF_indices, SF_cnt, SF_sz, SA_1, SA_2, SA_3, SA_4, SA_5, SA_6, SA_7⟩ := HS
  refine EndsQ.go (b := s₁.setTop (mkF m 1 #[.val (.ref (oo 0)), .val (.int p1), .val (.double q2), .second, .unset] [(.ref (oo 0))])) (fun t k => ?_) ?_
  · show Steps p.tables e below (s₁.setTop (mkF m 0 #[.val (.ref (oo 0)), .val (.int p1), .val (.double q2), .second, .unset] [])) _
    refine XS.aloadN X0.here hx rfl (hb hby d4_0) rfl rfl ?_
    exact k
  obtain ⟨T101, X101, e101, st101⟩ := getF X0 hx hZ hown (host := "") (Or.inl (hw _ (List.mem_of_getElem? (i := 35) rfl))) Via.refl e0 SF_sz (g := (mkF m 1 #[.val (.ref (oo 0)), .val (.int p1), .val (.double q2), .second, .unset] [(.ref (oo 0))])) rfl rfl (hb hby d4_1)
  refine EndsQ.go st101 ?_
  show EndsQ _ _ _ _ _ _ _ (T101.setTop (mkF m 4 #[.val (.ref (oo 0)), .val (.int p1), .val (.double q2), .second, .unset] [(.int (1 : Int32))]))
  refine EndsQ.go (b := T101.setTop (mkF m 5 #[.val (.ref (oo 0)), .val (.int p1), .val (.double q2), .second, .unset] [(.ref (oo 0)), (.int (1 : Int32))])) (fun t k => ?_) ?_
  · show Steps p.tables e below (T101.setTop (mkF m 4 #[.val (.ref (oo 0)), .val (.int p1), .val (.double q2), .second, .unset] [(.int (1 : Int32))])) _
    refine XS.aloadN X101.here hx rfl (hb hby d4_4) rfl rfl ?_
    exact k
  obtain ⟨T102, X102, e102, st102⟩ := getF X101 hx hZ hown (host := "") (Or.inl (hw _ (List.mem_of_getElem? (i := 15) rfl))) Via.refl e101 SF_confidences (g := (mkF m 5 #[.val (.ref (oo 0)), .val (.int p1), .val (.double q2), .second, .unset] [(.ref (oo 0)), (.int (1 : Int32))])) rfl rfl (hb hby d4_5)
  refine EndsQ.go st102 ?_
  show EndsQ _ _ _ _ _ _ _ (T102.setTop (mkF m 8 #[.val (.ref (oo 0)), .val (.int p1), .val (.double q2), .second, .unset] [(.ref (oo 3)), (.int (1 : Int32))]))
  obtain ⟨cl103, Ar103, -, S103, M103, -, -⟩ := id SA_3
  refine EndsQ.go (fun t k => X102.arraylength hx (by rw [e102]; exact Ar103.1) (State.isArrayOf_alike hZ.alike Ar103.2.1) (g := (mkF m 8 #[.val (.ref (oo 0)), .val (.int p1), .val (.double q2), .second, .unset] [(.ref (oo 3)), (.int (1 : Int32))])) rfl rfl (hb hby d4_8) _ k) ?_
  rw [len_of S103 M103]
  show EndsQ _ _ _ _ _ _ _ (T102.setTop (mkF m 9 #[.val (.ref (oo 0)), .val (.int p1), .val (.double q2), .second, .unset] [(.int (64 : Int32)), (.int (1 : Int32))]))
  refine EndsQ.go (b := T102.setTop (mkF m 47 #[.val (.ref (oo 0)), .val (.int p1), .val (.double q2), .second, .unset] [(.ref (oo 0))])) (fun t k => ?_) ?_
  · show Steps p.tables e below (T102.setTop (mkF m 9 #[.val (.ref (oo 0)), .val (.int p1), .val (.double q2), .second, .unset] [(.int (64 : Int32)), (.int (1 : Int32))])) _
    refine XS.icmpYes X102.here hx rfl (pc0 := 9) (pc' := 46) rfl (hb hby d4_9) rfl (feq (by decide)).2 (by decide) (by decide) ?_
    show Steps p.tables e below (T102.setTop (mkF m 46 #[.val (.ref (oo 0)), .val (.int p1), .val (.double q2), .second, .unset] [])) _
    refine XS.aloadN X102.here hx rfl (hb hby d4_46) rfl rfl ?_
    exact k
  obtain ⟨T104, X104, e104, st104⟩ := getF X102 hx hZ hown (host := "") (Or.inl (hw _ (List.mem_of_getElem? (i := 23) rfl))) Via.refl e102 SF_indices (g := (mkF m 47 #[.val (.ref (oo 0)), .val (.int p1), .val (.double q2), .second, .unset] [(.ref (oo 0))])) rfl rfl (hb hby d4_47)
  refine EndsQ.go st104 ?_
  show EndsQ _ _ _ _ _ _ _ (T104.setTop (mkF m 50 #[.val (.ref (oo 0)), .val (.int p1), .val (.double q2), .second, .unset] [(.ref (oo 7))]))
  refine EndsQ.go (b := T104.setTop (mkF m 51 #[.val (.ref (oo 0)), .val (.int p1), .val (.double q2), .second, .unset] [(.int p1), (.ref (oo 7))])) (fun t k => ?_) ?_
  · show Steps p.tables e below (T104.setTop (mkF m 50 #[.val (.ref (oo 0)), .val (.int p1), .val (.double q2), .second, .unset] [(.ref (oo 7))])) _
    refine XS.iloadN X104.here hx rfl (hb hby d4_50) rfl ?_
    show Steps p.tables e below (T104.setTop (mkF m 51 #[.val (.ref (oo 0)), .val (.int p1), .val (.double q2), .second, .unset] [(.int p1), (.ref (oo 7))])) _
    exact k
  obtain ⟨cl105, Ar105, q105, S105, M105, H105, G105⟩ := id SA_7
  have hin105 : ¬ (p1 < 0 ∨ cl105.slots.size ≤ (p1).toNatClampNeg) := inb_of S105 hp
  have hat105 : cl105.slots[(p1).toNatClampNeg]? = some (.int (-1 : Int32)) := Has.at H105 hin105 hix
  refine EndsQ.go (fun t k => X104.iaload hx (j := p1) (v := (.int (-1 : Int32))) (by rw [e104]; exact Ar105.1) (State.isArrayOf_alike hZ.alike Ar105.2.1) Ar105.2.2 hin105 hat105 (g := (mkF m 51 #[.val (.ref (oo 0)), .val (.int p1), .val (.double q2), .second, .unset] [(.int p1), (.ref (oo 7))])) rfl rfl (hb hby d4_51) _ k) ?_
  show EndsQ _ _ _ _ _ _ _ (T104.setTop (mkF m 52 #[.val (.ref (oo 0)), .val (.int p1), .val (.double q2), .second, .unset] [(.int (-1 : Int32))]))
  refine EndsQ.go (b := T104.setTop (mkF m 60 #[.val (.ref (oo 0)), .val (.int p1), .val (.double q2), .second, .val (.int (-1 : Int32))] [(.ref (oo 0))])) (fun t k => ?_) ?_
  · show Steps p.tables e below (T104.setTop (mkF m 52 #[.val (.ref (oo 0)), .val (.int p1), .val (.double q2), .second, .unset] [(.int (-1 : Int32))])) _
    refine XS.istore X104.here hx rfl (hb hby d4_52) rfl (l' := #[.val (.ref (oo 0)), .val (.int p1), .val (.double q2), .second, .val (.int (-1 : Int32))]) rfl ?_
    refine XS.iload X104.here hx rfl (hb hby d4_54) rfl ?_
    refine XS.ifNo X104.here hx rfl (hb hby d4_56) rfl ((if0 _ _).trans (tlt (by decide)).2.1) ?_
    show Steps p.tables e below (T104.setTop (mkF m 59 #[.val (.ref (oo 0)), .val (.int p1), .val (.double q2), .second, .val (.int (-1 : Int32))] [])) _
    refine XS.aloadN X104.here hx rfl (hb hby d4_59) rfl rfl ?_
    exact k
  obtain ⟨T106, X106, e106, st106⟩ := getF X104 hx hZ hown (host := "") (Or.inl (hw _ (List.mem_of_getElem? (i := 37) rfl))) Via.refl e104 SF_cnt (g := (mkF m 60 #[.val (.ref (oo 0)), .val (.int p1), .val (.double q2), .second, .val (.int (-1 : Int32))] [(.ref (oo 0))])) rfl rfl (hb hby d4_60)
  refine EndsQ.go st106 ?_
  show EndsQ _ _ _ _ _ _ _ (T106.setTop (mkF m 63 #[.val (.ref (oo 0)), .val (.int p1), .val (.double q2), .second, .val (.int (-1 : Int32))] [(.int (1 : Int32))]))
  refine EndsQ.go (b := T106.setTop (mkF m 64 #[.val (.ref (oo 0)), .val (.int p1), .val (.double q2), .second, .val (.int (-1 : Int32))] [(.ref (oo 0)), (.int (1 : Int32))])) (fun t k => ?_) ?_
  · show Steps p.tables e below (T106.setTop (mkF m 63 #[.val (.ref (oo 0)), .val (.int p1), .val (.double q2), .second, .val (.int (-1 : Int32))] [(.int (1 : Int32))])) _
    refine XS.aloadN X106.here hx rfl (hb hby d4_63) rfl rfl ?_
    show Steps p.tables e below (T106.setTop (mkF m 64 #[.val (.ref (oo 0)), .val (.int p1), .val (.double q2), .second, .val (.int (-1 : Int32))] [(.ref (oo 0)), (.int (1 : Int32))])) _
    exact k
  obtain ⟨T107, X107, e107, st107⟩ := getF X106 hx hZ hown (host := "") (Or.inl (hw _ (List.mem_of_getElem? (i := 10) rfl))) Via.refl e106 SF_candidates (g := (mkF m 64 #[.val (.ref (oo 0)), .val (.int p1), .val (.double q2), .second, .val (.int (-1 : Int32))] [(.ref (oo 0)), (.int (1 : Int32))])) rfl rfl (hb hby d4_64)
  refine EndsQ.go st107 ?_
  show EndsQ _ _ _ _ _ _ _ (T107.setTop (mkF m 67 #[.val (.ref (oo 0)), .val (.int p1), .val (.double q2), .second, .val (.int (-1 : Int32))] [(.ref (oo 1)), (.int (1 : Int32))]))
  obtain ⟨cl108, Ar108, -, S108, M108, -, -⟩ := id SA_1
  refine EndsQ.go (fun t k => X107.arraylength hx (by rw [e107]; exact Ar108.1) (State.isArrayOf_alike hZ.alike Ar108.2.1) (g := (mkF m 67 #[.val (.ref (oo 0)), .val (.int p1), .val (.double q2), .second, .val (.int (-1 : Int32))] [(.ref (oo 1)), (.int (1 : Int32))])) rfl rfl (hb hby d4_67) _ k) ?_
  rw [len_of S108 M108]
  show EndsQ _ _ _ _ _ _ _ (T107.setTop (mkF m 68 #[.val (.ref (oo 0)), .val (.int p1), .val (.double q2), .second, .val (.int (-1 : Int32))] [(.int (16 : Int32)), (.int (1 : Int32))]))
  refine EndsQ.go (b := T107.setTop (mkF m 126 #[.val (.ref (oo 0)), .val (.int p1), .val (.double q2), .second, .val (.int (-1 : Int32))] [(.ref (oo 0)), (.ref (oo 0))])) (fun t k => ?_) ?_
  · show Steps p.tables e below (T107.setTop (mkF m 68 #[.val (.ref (oo 0)), .val (.int p1), .val (.double q2), .second, .val (.int (-1 : Int32))] [(.int (16 : Int32)), (.int (1 : Int32))])) _
    refine XS.icmpYes X107.here hx rfl (pc0 := 68) (pc' := 124) rfl (hb hby d4_68) rfl (feq (by decide)).2 (by decide) (by decide) ?_
    show Steps p.tables e below (T107.setTop (mkF m 124 #[.val (.ref (oo 0)), .val (.int p1), .val (.double q2), .second, .val (.int (-1 : Int32))] [])) _
    refine XS.aloadN X107.here hx rfl (hb hby d4_124) rfl rfl ?_
    refine XS.dup X107.here hx rfl (hb hby d4_125) rfl rfl ?_
    exact k
  obtain ⟨T109, X109, e109, st109⟩ := getF X107 hx hZ hown (host := "") (Or.inl (hw _ (List.mem_of_getElem? (i := 37) rfl))) Via.refl e107 SF_cnt (g := (mkF m 126 #[.val (.ref (oo 0)), .val (.int p1), .val (.double q2), .second, .val (.int (-1 : Int32))] [(.ref (oo 0)), (.ref (oo 0))])) rfl rfl (hb hby d4_126)
  refine EndsQ.go st109 ?_
  show EndsQ _ _ _ _ _ _ _ (T109.setTop (mkF m 129 #[.val (.ref (oo 0)), .val (.int p1), .val (.double q2), .second, .val (.int (-1 : Int32))] [(.int (1 : Int32)), (.ref (oo 0))]))
  refine EndsQ.go (b := T109.setTop (mkF m 132 #[.val (.ref (oo 0)), .val (.int p1), .val (.double q2), .second, .val (.int (-1 : Int32))] [(.int (2 : Int32)), (.ref (oo 0)), (.int (1 : Int32))])) (fun t k => ?_) ?_
  · show Steps p.tables e below (T109.setTop (mkF m 129 #[.val (.ref (oo 0)), .val (.int p1), .val (.double q2), .second, .val (.int (-1 : Int32))] [(.int (1 : Int32)), (.ref (oo 0))])) _
    refine XS.dupX1 X109.here hx rfl (hb hby d4_129) rfl rfl rfl ?_
    refine XS.iconst X109.here hx rfl (hb hby d4_130) ?_
    show Steps p.tables e below (T109.setTop (mkF m 131 #[.val (.ref (oo 0)), .val (.int p1), .val (.double q2), .second, .val (.int (-1 : Int32))] [(.int (1 : Int32)), (.int (1 : Int32)), (.ref (oo 0)), (.int (1 : Int32))])) _
    refine XS.iadd X109.here hx rfl (hb hby d4_131) rfl ?_
    show Steps p.tables e below (T109.setTop (mkF m 132 #[.val (.ref (oo 0)), .val (.int p1), .val (.double q2), .second, .val (.int (-1 : Int32))] [(.int ((1 : Int32) + (1 : Int32))), (.ref (oo 0)), (.int (1 : Int32))])) _
    rw [(by decide : ((1 : Int32) + (1 : Int32)) = (2 : Int32))]
    show Steps p.tables e below (T109.setTop (mkF m 132 #[.val (.ref (oo 0)), .val (.int p1), .val (.double q2), .second, .val (.int (-1 : Int32))] [(.int (2 : Int32)), (.ref (oo 0)), (.int (1 : Int32))])) _
    exact k
  obtain ⟨T110, h110, X110, e110, W110, st110⟩ := putF X109 hx hZ hown (host := "") (Or.inl (hw _ (List.mem_of_getElem? (i := 37) rfl))) Via.refl e109 SF_cnt SE (Or.inl (hw _ (List.mem_of_getElem? (i := 38) rfl))) (hw _ (List.mem_of_getElem? (i := 1) rfl)) (ty := .int) (by decide) rfl rfl (g := (mkF m 132 #[.val (.ref (oo 0)), .val (.int p1), .val (.double q2), .second, .val (.int (-1 : Int32))] [(.int (2 : Int32)), (.ref (oo 0)), (.int (1 : Int32))])) rfl rfl (hb hby d4_132)
  have fw110 : Fld Z h110 (oo 0) "com/example/physarum/physarum/Proposals" "candidateCount" "I" (.int (2 : Int32)) := SF_cnt.same W110
  have f111 := SE.wr W110
  have f112 := SF_candidates.other W110 (Or.inr (slot_ne (Or.inl (hw _ (List.mem_of_getElem? (i := 11) rfl))) (Or.inl (hw _ (List.mem_of_getElem? (i := 38) rfl))) (by decide) (t := (.array .int)) (t' := .int) (by decide) (by decide)))
  have f113 := SF_proposed.other W110 (Or.inr (slot_ne (Or.inl (hw _ (List.mem_of_getElem? (i := 13) rfl))) (Or.inl (hw _ (List.mem_of_getElem? (i := 38) rfl))) (by decide) (t := (.array .int)) (t' := .int) (by decide) (by decide)))
  have f114 := SF_confidences.other W110 (Or.inr (slot_ne (Or.inl (hw _ (List.mem_of_getElem? (i := 16) rfl))) (Or.inl (hw _ (List.mem_of_getElem? (i := 38) rfl))) (by decide) (t := (.array .double)) (t' := .int) (by decide) (by decide)))
  have f115 := SF_starts.other W110 (Or.inr (slot_ne (Or.inl (hw _ (List.mem_of_getElem? (i := 18) rfl))) (Or.inl (hw _ (List.mem_of_getElem? (i := 38) rfl))) (by decide) (t := (.array .int)) (t' := .int) (by decide) (by decide)))
  have f116 := SF_arranged.other W110 (Or.inr (slot_ne (Or.inl (hw _ (List.mem_of_getElem? (i := 20) rfl))) (Or.inl (hw _ (List.mem_of_getElem? (i := 38) rfl))) (by decide) (t := (.array .double)) (t' := .int) (by decide) (by decide)))
  have f117 := SF_taken.other W110 (Or.inr (slot_ne (Or.inl (hw _ (List.mem_of_getElem? (i := 22) rfl))) (Or.inl (hw _ (List.mem_of_getElem? (i := 38) rfl))) (by decide) (t := (.array .int)) (t' := .int) (by decide) (by decide)))
  have f118 := SF_indices.other W110 (Or.inr (slot_ne (Or.inr (hw _ (List.mem_of_getElem? (i := 24) rfl))) (Or.inl (hw _ (List.mem_of_getElem? (i := 38) rfl))) (by decide) (t := (.array .int)) (t' := .int) (by decide) (by decide)))
  have f119 := SF_sz.other W110 (Or.inr (slot_ne (Or.inl (hw _ (List.mem_of_getElem? (i := 36) rfl))) (Or.inl (hw _ (List.mem_of_getElem? (i := 38) rfl))) (by decide) (t := .int) (t' := .int) (by decide) (by decide)))
  have f120 := SA_1.other W110 (hne 1 0 (by decide) (by decide) (by decide))
  have f121 := SA_2.other W110 (hne 2 0 (by decide) (by decide) (by decide))
  have f122 := SA_3.other W110 (hne 3 0 (by decide) (by decide) (by decide))
  have f123 := SA_4.other W110 (hne 4 0 (by decide) (by decide) (by decide))
  have f124 := SA_5.other W110 (hne 5 0 (by decide) (by decide) (by decide))
  have f125 := SA_6.other W110 (hne 6 0 (by decide) (by decide) (by decide))
  have f126 := SA_7.other W110 (hne 7 0 (by decide) (by decide) (by decide))
  have f127 := Nat.le_trans Z0 (Keep.of_wr W110).1
  have N110 := Fr.snoc X110 N0 (hn 0 (by decide))
  refine EndsQ.go st110 ?_
  show EndsQ _ _ _ _ _ _ _ (T110.setTop (mkF m 135 #[.val (.ref (oo 0)), .val (.int p1), .val (.double q2), .second, .val (.int (-1 : Int32))] [(.int (1 : Int32))]))
  refine EndsQ.go (b := T110.setTop (mkF m 138 #[.val (.ref (oo 0)), .val (.int p1), .val (.double q2), .second, .val (.int (1 : Int32))] [(.ref (oo 0))])) (fun t k => ?_) ?_
  · show Steps p.tables e below (T110.setTop (mkF m 135 #[.val (.ref (oo 0)), .val (.int p1), .val (.double q2), .second, .val (.int (-1 : Int32))] [(.int (1 : Int32))])) _
    refine XS.istore X110.here hx rfl (hb hby d4_135) rfl (l' := #[.val (.ref (oo 0)), .val (.int p1), .val (.double q2), .second, .val (.int (1 : Int32))]) rfl ?_
    refine XS.aloadN X110.here hx rfl (hb hby d4_137) rfl rfl ?_
    exact k
  obtain ⟨T128, X128, e128, st128⟩ := getF X110 hx hZ hown (host := "") (Or.inl (hw _ (List.mem_of_getElem? (i := 23) rfl))) Via.refl e110 f118 (g := (mkF m 138 #[.val (.ref (oo 0)), .val (.int p1), .val (.double q2), .second, .val (.int (1 : Int32))] [(.ref (oo 0))])) rfl rfl (hb hby d4_138)
  refine EndsQ.go st128 ?_
  show EndsQ _ _ _ _ _ _ _ (T128.setTop (mkF m 141 #[.val (.ref (oo 0)), .val (.int p1), .val (.double q2), .second, .val (.int (1 : Int32))] [(.ref (oo 7))]))
  refine EndsQ.go (b := T128.setTop (mkF m 144 #[.val (.ref (oo 0)), .val (.int p1), .val (.double q2), .second, .val (.int (1 : Int32))] [(.int (1 : Int32)), (.int p1), (.ref (oo 7))])) (fun t k => ?_) ?_
  · show Steps p.tables e below (T128.setTop (mkF m 141 #[.val (.ref (oo 0)), .val (.int p1), .val (.double q2), .second, .val (.int (1 : Int32))] [(.ref (oo 7))])) _
    refine XS.iloadN X128.here hx rfl (hb hby d4_141) rfl ?_
    show Steps p.tables e below (T128.setTop (mkF m 142 #[.val (.ref (oo 0)), .val (.int p1), .val (.double q2), .second, .val (.int (1 : Int32))] [(.int p1), (.ref (oo 7))])) _
    refine XS.iload X128.here hx rfl (hb hby d4_142) rfl ?_
    exact k
  obtain ⟨cl129, Ar129, q129, S129, M129, H129, G129⟩ := id f126
  have hin129 : ¬ (p1 < 0 ∨ cl129.slots.size ≤ (p1).toNatClampNeg) := inb_of S129 hp
  obtain ⟨T129, h129, X129, e129, W129, st129⟩ := stI X128 hx hZ e128 Ar129 (j := p1) hin129 (g := (mkF m 144 #[.val (.ref (oo 0)), .val (.int p1), .val (.double q2), .second, .val (.int (1 : Int32))] [(.int (1 : Int32)), (.int p1), (.ref (oo 7))])) rfl rfl (hb hby d4_144)
  have fa129 : Arv Z h129 (oo 7) (kk 7) .int (4 : Int32) (vx.set (p1).toNatClampNeg (.int (1 : Int32))) (.int (0 : Int32)) := Arv.set Ar129 q129 S129 M129 H129 G129 rfl W129 _ rfl (by simp only [List.length_set, hvl]; exact own_lt4 p1 hp)
  have f130 := f111.wr W129
  have f131 := f112.other W129 (Or.inl (hne 0 7 (by decide) (by decide) (by decide)))
  have f132 := f113.other W129 (Or.inl (hne 0 7 (by decide) (by decide) (by decide)))
  have f133 := f114.other W129 (Or.inl (hne 0 7 (by decide) (by decide) (by decide)))
  have f134 := f115.other W129 (Or.inl (hne 0 7 (by decide) (by decide) (by decide)))
  have f135 := f116.other W129 (Or.inl (hne 0 7 (by decide) (by decide) (by decide)))
  have f136 := f117.other W129 (Or.inl (hne 0 7 (by decide) (by decide) (by decide)))
  have f137 := f118.other W129 (Or.inl (hne 0 7 (by decide) (by decide) (by decide)))
  have f138 := f119.other W129 (Or.inl (hne 0 7 (by decide) (by decide) (by decide)))
  have f139 := f120.other W129 (hne 1 7 (by decide) (by decide) (by decide))
  have f140 := f121.other W129 (hne 2 7 (by decide) (by decide) (by decide))
  have f141 := f122.other W129 (hne 3 7 (by decide) (by decide) (by decide))
  have f142 := f123.other W129 (hne 4 7 (by decide) (by decide) (by decide))
  have f143 := f124.other W129 (hne 5 7 (by decide) (by decide) (by decide))
  have f144 := f125.other W129 (hne 6 7 (by decide) (by decide) (by decide))
  have f145 := Nat.le_trans f127 (Keep.of_wr W129).1
  have f146 := fw110.other W129 (Or.inl (hne 0 7 (by decide) (by decide) (by decide)))
  have N129 := Fr.snoc X129 N110 (hn 7 (by decide))
  refine EndsQ.go st129 ?_
  show EndsQ _ _ _ _ _ _ _ (T129.setTop (mkF m 145 #[.val (.ref (oo 0)), .val (.int p1), .val (.double q2), .second, .val (.int (1 : Int32))] []))
  refine EndsQ.go (b := T129.setTop (mkF m 146 #[.val (.ref (oo 0)), .val (.int p1), .val (.double q2), .second, .val (.int (1 : Int32))] [(.ref (oo 0))])) (fun t k => ?_) ?_
  · show Steps p.tables e below (T129.setTop (mkF m 145 #[.val (.ref (oo 0)), .val (.int p1), .val (.double q2), .second, .val (.int (1 : Int32))] [])) _
    refine XS.aloadN X129.here hx rfl (hb hby d4_145) rfl rfl ?_
    exact k
  obtain ⟨T147, X147, e147, st147⟩ := getF X129 hx hZ hown (host := "") (Or.inl (hw _ (List.mem_of_getElem? (i := 10) rfl))) Via.refl e129 f131 (g := (mkF m 146 #[.val (.ref (oo 0)), .val (.int p1), .val (.double q2), .second, .val (.int (1 : Int32))] [(.ref (oo 0))])) rfl rfl (hb hby d4_146)
  refine EndsQ.go st147 ?_
  show EndsQ _ _ _ _ _ _ _ (T147.setTop (mkF m 149 #[.val (.ref (oo 0)), .val (.int p1), .val (.double q2), .second, .val (.int (1 : Int32))] [(.ref (oo 1))]))
  refine EndsQ.go (b := T147.setTop (mkF m 152 #[.val (.ref (oo 0)), .val (.int p1), .val (.double q2), .second, .val (.int (1 : Int32))] [(.int p1), (.int (1 : Int32)), (.ref (oo 1))])) (fun t k => ?_) ?_
  · show Steps p.tables e below (T147.setTop (mkF m 149 #[.val (.ref (oo 0)), .val (.int p1), .val (.double q2), .second, .val (.int (1 : Int32))] [(.ref (oo 1))])) _
    refine XS.iload X147.here hx rfl (hb hby d4_149) rfl ?_
    refine XS.iloadN X147.here hx rfl (hb hby d4_151) rfl ?_
    show Steps p.tables e below (T147.setTop (mkF m 152 #[.val (.ref (oo 0)), .val (.int p1), .val (.double q2), .second, .val (.int (1 : Int32))] [(.int p1), (.int (1 : Int32)), (.ref (oo 1))])) _
    exact k
  obtain ⟨cl148, Ar148, q148, S148, M148, H148, G148⟩ := id f139
  have hin148 : ¬ ((1 : Int32) < 0 ∨ cl148.slots.size ≤ ((1 : Int32)).toNatClampNeg) := inb_of S148 ⟨by decide, by decide⟩
  obtain ⟨T148, h148, X148, e148, W148, st148⟩ := stI X147 hx hZ e147 Ar148 (j := (1 : Int32)) hin148 (g := (mkF m 152 #[.val (.ref (oo 0)), .val (.int p1), .val (.double q2), .second, .val (.int (1 : Int32))] [(.int p1), (.int (1 : Int32)), (.ref (oo 1))])) rfl rfl (hb hby d4_152)
  have fa148 : Arv Z h148 (oo 1) (kk 1) .int (16 : Int32) [(.int c0), (.int p1), (.int c2)] (.int (0 : Int32)) := Arv.set Ar148 q148 S148 M148 H148 G148 rfl W148 1 rfl (Nat.le_of_ble_eq_true rfl)
  have f149 := f130.wr W148
  have f150 := f131.other W148 (Or.inl (hne 0 1 (by decide) (by decide) (by decide)))
  have f151 := f132.other W148 (Or.inl (hne 0 1 (by decide) (by decide) (by decide)))
  have f152 := f133.other W148 (Or.inl (hne 0 1 (by decide) (by decide) (by decide)))
  have f153 := f134.other W148 (Or.inl (hne 0 1 (by decide) (by decide) (by decide)))
  have f154 := f135.other W148 (Or.inl (hne 0 1 (by decide) (by decide) (by decide)))
  have f155 := f136.other W148 (Or.inl (hne 0 1 (by decide) (by decide) (by decide)))
  have f156 := f137.other W148 (Or.inl (hne 0 1 (by decide) (by decide) (by decide)))
  have f157 := f138.other W148 (Or.inl (hne 0 1 (by decide) (by decide) (by decide)))
  have f158 := f140.other W148 (hne 2 1 (by decide) (by decide) (by decide))
  have f159 := f141.other W148 (hne 3 1 (by decide) (by decide) (by decide))
  have f160 := f142.other W148 (hne 4 1 (by decide) (by decide) (by decide))
  have f161 := f143.other W148 (hne 5 1 (by decide) (by decide) (by decide))
  have f162 := f144.other W148 (hne 6 1 (by decide) (by decide) (by decide))
  have f163 := Nat.le_trans f145 (Keep.of_wr W148).1
  have f164 := f146.other W148 (Or.inl (hne 0 1 (by decide) (by decide) (by decide)))
  have f165 := fa129.other W148 (hne 7 1 (by decide) (by decide) (by decide))
  have N148 := Fr.snoc X148 N129 (hn 1 (by decide))
  refine EndsQ.go st148 ?_
  show EndsQ _ _ _ _ _ _ _ (T148.setTop (mkF m 153 #[.val (.ref (oo 0)), .val (.int p1), .val (.double q2), .second, .val (.int (1 : Int32))] []))
  refine EndsQ.go (b := T148.setTop (mkF m 154 #[.val (.ref (oo 0)), .val (.int p1), .val (.double q2), .second, .val (.int (1 : Int32))] [(.ref (oo 0))])) (fun t k => ?_) ?_
  · show Steps p.tables e below (T148.setTop (mkF m 153 #[.val (.ref (oo 0)), .val (.int p1), .val (.double q2), .second, .val (.int (1 : Int32))] [])) _
    refine XS.aloadN X148.here hx rfl (hb hby d4_153) rfl rfl ?_
    exact k
  obtain ⟨T166, X166, e166, st166⟩ := getF X148 hx hZ hown (host := "") (Or.inl (hw _ (List.mem_of_getElem? (i := 17) rfl))) Via.refl e148 f153 (g := (mkF m 154 #[.val (.ref (oo 0)), .val (.int p1), .val (.double q2), .second, .val (.int (1 : Int32))] [(.ref (oo 0))])) rfl rfl (hb hby d4_154)
  refine EndsQ.go st166 ?_
  show EndsQ _ _ _ _ _ _ _ (T166.setTop (mkF m 157 #[.val (.ref (oo 0)), .val (.int p1), .val (.double q2), .second, .val (.int (1 : Int32))] [(.ref (oo 4))]))
  refine EndsQ.go (b := T166.setTop (mkF m 160 #[.val (.ref (oo 0)), .val (.int p1), .val (.double q2), .second, .val (.int (1 : Int32))] [(.int (0 : Int32)), (.int (1 : Int32)), (.ref (oo 4))])) (fun t k => ?_) ?_
  · show Steps p.tables e below (T166.setTop (mkF m 157 #[.val (.ref (oo 0)), .val (.int p1), .val (.double q2), .second, .val (.int (1 : Int32))] [(.ref (oo 4))])) _
    refine XS.iload X166.here hx rfl (hb hby d4_157) rfl ?_
    refine XS.iconst X166.here hx rfl (hb hby d4_159) ?_
    exact k
  obtain ⟨cl167, Ar167, q167, S167, M167, H167, G167⟩ := id f160
  have hin167 : ¬ ((1 : Int32) < 0 ∨ cl167.slots.size ≤ ((1 : Int32)).toNatClampNeg) := inb_of S167 ⟨by decide, by decide⟩
  obtain ⟨T167, h167, X167, e167, W167, st167⟩ := stI X166 hx hZ e166 Ar167 (j := (1 : Int32)) hin167 (g := (mkF m 160 #[.val (.ref (oo 0)), .val (.int p1), .val (.double q2), .second, .val (.int (1 : Int32))] [(.int (0 : Int32)), (.int (1 : Int32)), (.ref (oo 4))])) rfl rfl (hb hby d4_160)
  have fa167 : Arv Z h167 (oo 4) (kk 4) .int (17 : Int32) [(.int (1 : Int32)), (.int (0 : Int32)), (.int s2)] (.int (0 : Int32)) := Arv.set Ar167 q167 S167 M167 H167 G167 rfl W167 1 rfl (Nat.le_of_ble_eq_true rfl)
  have f168 := f149.wr W167
  have f169 := f150.other W167 (Or.inl (hne 0 4 (by decide) (by decide) (by decide)))
  have f170 := f151.other W167 (Or.inl (hne 0 4 (by decide) (by decide) (by decide)))
  have f171 := f152.other W167 (Or.inl (hne 0 4 (by decide) (by decide) (by decide)))
  have f172 := f153.other W167 (Or.inl (hne 0 4 (by decide) (by decide) (by decide)))
  have f173 := f154.other W167 (Or.inl (hne 0 4 (by decide) (by decide) (by decide)))
  have f174 := f155.other W167 (Or.inl (hne 0 4 (by decide) (by decide) (by decide)))
  have f175 := f156.other W167 (Or.inl (hne 0 4 (by decide) (by decide) (by decide)))
  have f176 := f157.other W167 (Or.inl (hne 0 4 (by decide) (by decide) (by decide)))
  have f177 := f158.other W167 (hne 2 4 (by decide) (by decide) (by decide))
  have f178 := f159.other W167 (hne 3 4 (by decide) (by decide) (by decide))
  have f179 := f161.other W167 (hne 5 4 (by decide) (by decide) (by decide))
  have f180 := f162.other W167 (hne 6 4 (by decide) (by decide) (by decide))
  have f181 := Nat.le_trans f163 (Keep.of_wr W167).1
  have f182 := f164.other W167 (Or.inl (hne 0 4 (by decide) (by decide) (by decide)))
  have f183 := f165.other W167 (hne 7 4 (by decide) (by decide) (by decide))
  have f184 := fa148.other W167 (hne 1 4 (by decide) (by decide) (by decide))
  have N167 := Fr.snoc X167 N148 (hn 4 (by decide))
  refine EndsQ.go st167 ?_
  show EndsQ _ _ _ _ _ _ _ (T167.setTop (mkF m 161 #[.val (.ref (oo 0)), .val (.int p1), .val (.double q2), .second, .val (.int (1 : Int32))] []))
  refine EndsQ.go (b := T167.setTop (mkF m 162 #[.val (.ref (oo 0)), .val (.int p1), .val (.double q2), .second, .val (.int (1 : Int32))] [(.ref (oo 0))])) (fun t k => ?_) ?_
  · show Steps p.tables e below (T167.setTop (mkF m 161 #[.val (.ref (oo 0)), .val (.int p1), .val (.double q2), .second, .val (.int (1 : Int32))] [])) _
    refine XS.aloadN X167.here hx rfl (hb hby d4_161) rfl rfl ?_
    show Steps p.tables e below (T167.setTop (mkF m 162 #[.val (.ref (oo 0)), .val (.int p1), .val (.double q2), .second, .val (.int (1 : Int32))] [(.ref (oo 0))])) _
    exact k
  obtain ⟨T185, X185, e185, st185⟩ := getF X167 hx hZ hown (host := "") (Or.inl (hw _ (List.mem_of_getElem? (i := 12) rfl))) Via.refl e167 f170 (g := (mkF m 162 #[.val (.ref (oo 0)), .val (.int p1), .val (.double q2), .second, .val (.int (1 : Int32))] [(.ref (oo 0))])) rfl rfl (hb hby d4_162)
  refine EndsQ.go st185 ?_
  show EndsQ _ _ _ _ _ _ _ (T185.setTop (mkF m 165 #[.val (.ref (oo 0)), .val (.int p1), .val (.double q2), .second, .val (.int (1 : Int32))] [(.ref (oo 2))]))
  refine EndsQ.go (b := T185.setTop (mkF m 166 #[.val (.ref (oo 0)), .val (.int p1), .val (.double q2), .second, .val (.int (1 : Int32))] [(.ref (oo 0)), (.ref (oo 2))])) (fun t k => ?_) ?_
  · show Steps p.tables e below (T185.setTop (mkF m 165 #[.val (.ref (oo 0)), .val (.int p1), .val (.double q2), .second, .val (.int (1 : Int32))] [(.ref (oo 2))])) _
    refine XS.aloadN X185.here hx rfl (hb hby d4_165) rfl rfl ?_
    exact k
  obtain ⟨T186, X186, e186, st186⟩ := getF X185 hx hZ hown (host := "") (Or.inl (hw _ (List.mem_of_getElem? (i := 35) rfl))) Via.refl e185 f176 (g := (mkF m 166 #[.val (.ref (oo 0)), .val (.int p1), .val (.double q2), .second, .val (.int (1 : Int32))] [(.ref (oo 0)), (.ref (oo 2))])) rfl rfl (hb hby d4_166)
  refine EndsQ.go st186 ?_
  show EndsQ _ _ _ _ _ _ _ (T186.setTop (mkF m 169 #[.val (.ref (oo 0)), .val (.int p1), .val (.double q2), .second, .val (.int (1 : Int32))] [(.int (1 : Int32)), (.ref (oo 2))]))
  refine EndsQ.go (b := T186.setTop (mkF m 171 #[.val (.ref (oo 0)), .val (.int p1), .val (.double q2), .second, .val (.int (1 : Int32))] [(.int (1 : Int32)), (.int (1 : Int32)), (.ref (oo 2))])) (fun t k => ?_) ?_
  · show Steps p.tables e below (T186.setTop (mkF m 169 #[.val (.ref (oo 0)), .val (.int p1), .val (.double q2), .second, .val (.int (1 : Int32))] [(.int (1 : Int32)), (.ref (oo 2))])) _
    refine XS.iload X186.here hx rfl (hb hby d4_169) rfl ?_
    exact k
  obtain ⟨cl187, Ar187, q187, S187, M187, H187, G187⟩ := id f177
  have hin187 : ¬ ((1 : Int32) < 0 ∨ cl187.slots.size ≤ ((1 : Int32)).toNatClampNeg) := inb_of S187 ⟨by decide, by decide⟩
  obtain ⟨T187, h187, X187, e187, W187, st187⟩ := stI X186 hx hZ e186 Ar187 (j := (1 : Int32)) hin187 (g := (mkF m 171 #[.val (.ref (oo 0)), .val (.int p1), .val (.double q2), .second, .val (.int (1 : Int32))] [(.int (1 : Int32)), (.int (1 : Int32)), (.ref (oo 2))])) rfl rfl (hb hby d4_171)
  have fa187 : Arv Z h187 (oo 2) (kk 2) .int (64 : Int32) [(.int r0), (.int (1 : Int32)), (.int r2)] (.int (0 : Int32)) := Arv.set Ar187 q187 S187 M187 H187 G187 rfl W187 1 rfl (Nat.le_of_ble_eq_true rfl)
  have f188 := f168.wr W187
  have f189 := f169.other W187 (Or.inl (hne 0 2 (by decide) (by decide) (by decide)))
  have f190 := f170.other W187 (Or.inl (hne 0 2 (by decide) (by decide) (by decide)))
  have f191 := f171.other W187 (Or.inl (hne 0 2 (by decide) (by decide) (by decide)))
  have f192 := f172.other W187 (Or.inl (hne 0 2 (by decide) (by decide) (by decide)))
  have f193 := f173.other W187 (Or.inl (hne 0 2 (by decide) (by decide) (by decide)))
  have f194 := f174.other W187 (Or.inl (hne 0 2 (by decide) (by decide) (by decide)))
  have f195 := f175.other W187 (Or.inl (hne 0 2 (by decide) (by decide) (by decide)))
  have f196 := f176.other W187 (Or.inl (hne 0 2 (by decide) (by decide) (by decide)))
  have f197 := f178.other W187 (hne 3 2 (by decide) (by decide) (by decide))
  have f198 := f179.other W187 (hne 5 2 (by decide) (by decide) (by decide))
  have f199 := f180.other W187 (hne 6 2 (by decide) (by decide) (by decide))
  have f200 := Nat.le_trans f181 (Keep.of_wr W187).1
  have f201 := f182.other W187 (Or.inl (hne 0 2 (by decide) (by decide) (by decide)))
  have f202 := f183.other W187 (hne 7 2 (by decide) (by decide) (by decide))
  have f203 := f184.other W187 (hne 1 2 (by decide) (by decide) (by decide))
  have f204 := fa167.other W187 (hne 4 2 (by decide) (by decide) (by decide))
  have N187 := Fr.snoc X187 N167 (hn 2 (by decide))
  refine EndsQ.go st187 ?_
  show EndsQ _ _ _ _ _ _ _ (T187.setTop (mkF m 172 #[.val (.ref (oo 0)), .val (.int p1), .val (.double q2), .second, .val (.int (1 : Int32))] []))
  refine EndsQ.go (b := T187.setTop (mkF m 173 #[.val (.ref (oo 0)), .val (.int p1), .val (.double q2), .second, .val (.int (1 : Int32))] [(.ref (oo 0))])) (fun t k => ?_) ?_
  · show Steps p.tables e below (T187.setTop (mkF m 172 #[.val (.ref (oo 0)), .val (.int p1), .val (.double q2), .second, .val (.int (1 : Int32))] [])) _
    refine XS.aloadN X187.here hx rfl (hb hby d4_172) rfl rfl ?_
    exact k
  obtain ⟨T205, X205, e205, st205⟩ := getF X187 hx hZ hown (host := "") (Or.inl (hw _ (List.mem_of_getElem? (i := 15) rfl))) Via.refl e187 f191 (g := (mkF m 173 #[.val (.ref (oo 0)), .val (.int p1), .val (.double q2), .second, .val (.int (1 : Int32))] [(.ref (oo 0))])) rfl rfl (hb hby d4_173)
  refine EndsQ.go st205 ?_
  show EndsQ _ _ _ _ _ _ _ (T205.setTop (mkF m 176 #[.val (.ref (oo 0)), .val (.int p1), .val (.double q2), .second, .val (.int (1 : Int32))] [(.ref (oo 3))]))
  refine EndsQ.go (b := T205.setTop (mkF m 177 #[.val (.ref (oo 0)), .val (.int p1), .val (.double q2), .second, .val (.int (1 : Int32))] [(.ref (oo 0)), (.ref (oo 3))])) (fun t k => ?_) ?_
  · show Steps p.tables e below (T205.setTop (mkF m 176 #[.val (.ref (oo 0)), .val (.int p1), .val (.double q2), .second, .val (.int (1 : Int32))] [(.ref (oo 3))])) _
    refine XS.aloadN X205.here hx rfl (hb hby d4_176) rfl rfl ?_
    show Steps p.tables e below (T205.setTop (mkF m 177 #[.val (.ref (oo 0)), .val (.int p1), .val (.double q2), .second, .val (.int (1 : Int32))] [(.ref (oo 0)), (.ref (oo 3))])) _
    exact k
  obtain ⟨T206, X206, e206, st206⟩ := getF X205 hx hZ hown (host := "") (Or.inl (hw _ (List.mem_of_getElem? (i := 35) rfl))) Via.refl e205 f196 (g := (mkF m 177 #[.val (.ref (oo 0)), .val (.int p1), .val (.double q2), .second, .val (.int (1 : Int32))] [(.ref (oo 0)), (.ref (oo 3))])) rfl rfl (hb hby d4_177)
  refine EndsQ.go st206 ?_
  show EndsQ _ _ _ _ _ _ _ (T206.setTop (mkF m 180 #[.val (.ref (oo 0)), .val (.int p1), .val (.double q2), .second, .val (.int (1 : Int32))] [(.int (1 : Int32)), (.ref (oo 3))]))
  refine EndsQ.go (b := T206.setTop (mkF m 181 #[.val (.ref (oo 0)), .val (.int p1), .val (.double q2), .second, .val (.int (1 : Int32))] [(.double q2), (.int (1 : Int32)), (.ref (oo 3))])) (fun t k => ?_) ?_
  · show Steps p.tables e below (T206.setTop (mkF m 180 #[.val (.ref (oo 0)), .val (.int p1), .val (.double q2), .second, .val (.int (1 : Int32))] [(.int (1 : Int32)), (.ref (oo 3))])) _
    refine XS.dloadN X206.here hx rfl (hb hby d4_180) rfl ?_
    exact k
  obtain ⟨cl207, Ar207, q207, S207, M207, H207, G207⟩ := id f197
  have hin207 : ¬ ((1 : Int32) < 0 ∨ cl207.slots.size ≤ ((1 : Int32)).toNatClampNeg) := inb_of S207 ⟨by decide, by decide⟩
  obtain ⟨T207, h207, X207, e207, W207, st207⟩ := stD X206 hx hZ e206 Ar207 (j := (1 : Int32)) hin207 (g := (mkF m 181 #[.val (.ref (oo 0)), .val (.int p1), .val (.double q2), .second, .val (.int (1 : Int32))] [(.double q2), (.int (1 : Int32)), (.ref (oo 3))])) rfl rfl (hb hby d4_181)
  have fa207 : Arv Z h207 (oo 3) (kk 3) .double (64 : Int32) [(.double d0), (.double q2), (.double d2)] (.double (0 : UInt64)) := Arv.set Ar207 q207 S207 M207 H207 G207 rfl W207 1 rfl (Nat.le_of_ble_eq_true rfl)
  have f208 := f188.wr W207
  have f209 := f189.other W207 (Or.inl (hne 0 3 (by decide) (by decide) (by decide)))
  have f210 := f190.other W207 (Or.inl (hne 0 3 (by decide) (by decide) (by decide)))
  have f211 := f191.other W207 (Or.inl (hne 0 3 (by decide) (by decide) (by decide)))
  have f212 := f192.other W207 (Or.inl (hne 0 3 (by decide) (by decide) (by decide)))
  have f213 := f193.other W207 (Or.inl (hne 0 3 (by decide) (by decide) (by decide)))
  have f214 := f194.other W207 (Or.inl (hne 0 3 (by decide) (by decide) (by decide)))
  have f215 := f195.other W207 (Or.inl (hne 0 3 (by decide) (by decide) (by decide)))
  have f216 := f196.other W207 (Or.inl (hne 0 3 (by decide) (by decide) (by decide)))
  have f217 := f198.other W207 (hne 5 3 (by decide) (by decide) (by decide))
  have f218 := f199.other W207 (hne 6 3 (by decide) (by decide) (by decide))
  have f219 := Nat.le_trans f200 (Keep.of_wr W207).1
  have f220 := f201.other W207 (Or.inl (hne 0 3 (by decide) (by decide) (by decide)))
  have f221 := f202.other W207 (hne 7 3 (by decide) (by decide) (by decide))
  have f222 := f203.other W207 (hne 1 3 (by decide) (by decide) (by decide))
  have f223 := f204.other W207 (hne 4 3 (by decide) (by decide) (by decide))
  have f224 := fa187.other W207 (hne 2 3 (by decide) (by decide) (by decide))
  have N207 := Fr.snoc X207 N187 (hn 3 (by decide))
  refine EndsQ.go st207 ?_
  show EndsQ _ _ _ _ _ _ _ (T207.setTop (mkF m 182 #[.val (.ref (oo 0)), .val (.int p1), .val (.double q2), .second, .val (.int (1 : Int32))] []))
  refine EndsQ.go (b := T207.setTop (mkF m 183 #[.val (.ref (oo 0)), .val (.int p1), .val (.double q2), .second, .val (.int (1 : Int32))] [(.ref (oo 0))])) (fun t k => ?_) ?_
  · show Steps p.tables e below (T207.setTop (mkF m 182 #[.val (.ref (oo 0)), .val (.int p1), .val (.double q2), .second, .val (.int (1 : Int32))] [])) _
    refine XS.aloadN X207.here hx rfl (hb hby d4_182) rfl rfl ?_
    exact k
  obtain ⟨T225, X225, e225, st225⟩ := getF X207 hx hZ hown (host := "") (Or.inl (hw _ (List.mem_of_getElem? (i := 17) rfl))) Via.refl e207 f212 (g := (mkF m 183 #[.val (.ref (oo 0)), .val (.int p1), .val (.double q2), .second, .val (.int (1 : Int32))] [(.ref (oo 0))])) rfl rfl (hb hby d4_183)
  refine EndsQ.go st225 ?_
  show EndsQ _ _ _ _ _ _ _ (T225.setTop (mkF m 186 #[.val (.ref (oo 0)), .val (.int p1), .val (.double q2), .second, .val (.int (1 : Int32))] [(.ref (oo 4))]))
  refine EndsQ.go (b := T225.setTop (mkF m 189 #[.val (.ref (oo 0)), .val (.int p1), .val (.double q2), .second, .val (.int (1 : Int32))] [(.int (1 : Int32)), (.ref (oo 4)), (.int (1 : Int32)), (.ref (oo 4))])) (fun t k => ?_) ?_
  · show Steps p.tables e below (T225.setTop (mkF m 186 #[.val (.ref (oo 0)), .val (.int p1), .val (.double q2), .second, .val (.int (1 : Int32))] [(.ref (oo 4))])) _
    refine XS.iload X225.here hx rfl (hb hby d4_186) rfl ?_
    refine Jvm.Free.XT.dup2 X225.here hx rfl (hb hby d4_188) rfl rfl rfl ?_
    show Steps p.tables e below (T225.setTop (mkF m 189 #[.val (.ref (oo 0)), .val (.int p1), .val (.double q2), .second, .val (.int (1 : Int32))] [(.int (1 : Int32)), (.ref (oo 4)), (.int (1 : Int32)), (.ref (oo 4))])) _
    exact k
  obtain ⟨cl226, Ar226, q226, S226, M226, H226, G226⟩ := id f223
  have hin226 : ¬ ((1 : Int32) < 0 ∨ cl226.slots.size ≤ ((1 : Int32)).toNatClampNeg) := inb_of S226 ⟨by decide, by decide⟩
  have hat226 : cl226.slots[((1 : Int32)).toNatClampNeg]? = some (.int (0 : Int32)) := Has.at H226 hin226 rfl
  refine EndsQ.go (fun t k => X225.iaload hx (j := (1 : Int32)) (v := (.int (0 : Int32))) (by rw [e225]; exact Ar226.1) (State.isArrayOf_alike hZ.alike Ar226.2.1) Ar226.2.2 hin226 hat226 (g := (mkF m 189 #[.val (.ref (oo 0)), .val (.int p1), .val (.double q2), .second, .val (.int (1 : Int32))] [(.int (1 : Int32)), (.ref (oo 4)), (.int (1 : Int32)), (.ref (oo 4))])) rfl rfl (hb hby d4_189) _ k) ?_
  show EndsQ _ _ _ _ _ _ _ (T225.setTop (mkF m 190 #[.val (.ref (oo 0)), .val (.int p1), .val (.double q2), .second, .val (.int (1 : Int32))] [(.int (0 : Int32)), (.int (1 : Int32)), (.ref (oo 4))]))
  refine EndsQ.go (b := T225.setTop (mkF m 192 #[.val (.ref (oo 0)), .val (.int p1), .val (.double q2), .second, .val (.int (1 : Int32))] [(.int (1 : Int32)), (.int (1 : Int32)), (.ref (oo 4))])) (fun t k => ?_) ?_
  · show Steps p.tables e below (T225.setTop (mkF m 190 #[.val (.ref (oo 0)), .val (.int p1), .val (.double q2), .second, .val (.int (1 : Int32))] [(.int (0 : Int32)), (.int (1 : Int32)), (.ref (oo 4))])) _
    refine XS.iconst X225.here hx rfl (hb hby d4_190) ?_
    refine XS.iadd X225.here hx rfl (hb hby d4_191) rfl ?_
    show Steps p.tables e below (T225.setTop (mkF m 192 #[.val (.ref (oo 0)), .val (.int p1), .val (.double q2), .second, .val (.int (1 : Int32))] [(.int ((0 : Int32) + (1 : Int32))), (.int (1 : Int32)), (.ref (oo 4))])) _
    rw [(by decide : ((0 : Int32) + (1 : Int32)) = (1 : Int32))]
    show Steps p.tables e below (T225.setTop (mkF m 192 #[.val (.ref (oo 0)), .val (.int p1), .val (.double q2), .second, .val (.int (1 : Int32))] [(.int (1 : Int32)), (.int (1 : Int32)), (.ref (oo 4))])) _
    exact k
  obtain ⟨cl227, Ar227, q227, S227, M227, H227, G227⟩ := id f223
  have hin227 : ¬ ((1 : Int32) < 0 ∨ cl227.slots.size ≤ ((1 : Int32)).toNatClampNeg) := inb_of S227 ⟨by decide, by decide⟩
  obtain ⟨T227, h227, X227, e227, W227, st227⟩ := stI X225 hx hZ e225 Ar227 (j := (1 : Int32)) hin227 (g := (mkF m 192 #[.val (.ref (oo 0)), .val (.int p1), .val (.double q2), .second, .val (.int (1 : Int32))] [(.int (1 : Int32)), (.int (1 : Int32)), (.ref (oo 4))])) rfl rfl (hb hby d4_192)
  have fa227 : Arv Z h227 (oo 4) (kk 4) .int (17 : Int32) [(.int (1 : Int32)), (.int (1 : Int32)), (.int s2)] (.int (0 : Int32)) := Arv.set Ar227 q227 S227 M227 H227 G227 rfl W227 1 rfl (Nat.le_of_ble_eq_true rfl)
  have f228 := f208.wr W227
  have f229 := f209.other W227 (Or.inl (hne 0 4 (by decide) (by decide) (by decide)))
  have f230 := f210.other W227 (Or.inl (hne 0 4 (by decide) (by decide) (by decide)))
  have f231 := f211.other W227 (Or.inl (hne 0 4 (by decide) (by decide) (by decide)))
  have f232 := f212.other W227 (Or.inl (hne 0 4 (by decide) (by decide) (by decide)))
  have f233 := f213.other W227 (Or.inl (hne 0 4 (by decide) (by decide) (by decide)))
  have f234 := f214.other W227 (Or.inl (hne 0 4 (by decide) (by decide) (by decide)))
  have f235 := f215.other W227 (Or.inl (hne 0 4 (by decide) (by decide) (by decide)))
  have f236 := f216.other W227 (Or.inl (hne 0 4 (by decide) (by decide) (by decide)))
  have f237 := f217.other W227 (hne 5 4 (by decide) (by decide) (by decide))
  have f238 := f218.other W227 (hne 6 4 (by decide) (by decide) (by decide))
  have f239 := Nat.le_trans f219 (Keep.of_wr W227).1
  have f240 := f220.other W227 (Or.inl (hne 0 4 (by decide) (by decide) (by decide)))
  have f241 := f221.other W227 (hne 7 4 (by decide) (by decide) (by decide))
  have f242 := f222.other W227 (hne 1 4 (by decide) (by decide) (by decide))
  have f243 := f224.other W227 (hne 2 4 (by decide) (by decide) (by decide))
  have f244 := fa207.other W227 (hne 3 4 (by decide) (by decide) (by decide))
  have N227 := Fr.snoc X227 N207 (hn 4 (by decide))
  refine EndsQ.go st227 ?_
  show EndsQ _ _ _ _ _ _ _ (T227.setTop (mkF m 193 #[.val (.ref (oo 0)), .val (.int p1), .val (.double q2), .second, .val (.int (1 : Int32))] []))
  refine EndsQ.go (b := T227.setTop (mkF m 195 #[.val (.ref (oo 0)), .val (.int p1), .val (.double q2), .second, .val (.int (1 : Int32))] [(.ref (oo 0)), (.ref (oo 0))])) (fun t k => ?_) ?_
  · show Steps p.tables e below (T227.setTop (mkF m 193 #[.val (.ref (oo 0)), .val (.int p1), .val (.double q2), .second, .val (.int (1 : Int32))] [])) _
    refine XS.aloadN X227.here hx rfl (hb hby d4_193) rfl rfl ?_
    refine XS.dup X227.here hx rfl (hb hby d4_194) rfl rfl ?_
    show Steps p.tables e below (T227.setTop (mkF m 195 #[.val (.ref (oo 0)), .val (.int p1), .val (.double q2), .second, .val (.int (1 : Int32))] [(.ref (oo 0)), (.ref (oo 0))])) _
    exact k
  obtain ⟨T245, X245, e245, st245⟩ := getF X227 hx hZ hown (host := "") (Or.inl (hw _ (List.mem_of_getElem? (i := 35) rfl))) Via.refl e227 f236 (g := (mkF m 195 #[.val (.ref (oo 0)), .val (.int p1), .val (.double q2), .second, .val (.int (1 : Int32))] [(.ref (oo 0)), (.ref (oo 0))])) rfl rfl (hb hby d4_195)
  refine EndsQ.go st245 ?_
  show EndsQ _ _ _ _ _ _ _ (T245.setTop (mkF m 198 #[.val (.ref (oo 0)), .val (.int p1), .val (.double q2), .second, .val (.int (1 : Int32))] [(.int (1 : Int32)), (.ref (oo 0))]))
  refine EndsQ.go (b := T245.setTop (mkF m 200 #[.val (.ref (oo 0)), .val (.int p1), .val (.double q2), .second, .val (.int (1 : Int32))] [(.int (2 : Int32)), (.ref (oo 0))])) (fun t k => ?_) ?_
  · show Steps p.tables e below (T245.setTop (mkF m 198 #[.val (.ref (oo 0)), .val (.int p1), .val (.double q2), .second, .val (.int (1 : Int32))] [(.int (1 : Int32)), (.ref (oo 0))])) _
    refine XS.iconst X245.here hx rfl (hb hby d4_198) ?_
    refine XS.iadd X245.here hx rfl (hb hby d4_199) rfl ?_
    show Steps p.tables e below (T245.setTop (mkF m 200 #[.val (.ref (oo 0)), .val (.int p1), .val (.double q2), .second, .val (.int (1 : Int32))] [(.int ((1 : Int32) + (1 : Int32))), (.ref (oo 0))])) _
    rw [(by decide : ((1 : Int32) + (1 : Int32)) = (2 : Int32))]
    show Steps p.tables e below (T245.setTop (mkF m 200 #[.val (.ref (oo 0)), .val (.int p1), .val (.double q2), .second, .val (.int (1 : Int32))] [(.int (2 : Int32)), (.ref (oo 0))])) _
    exact k
  obtain ⟨T246, h246, X246, e246, W246, st246⟩ := putF X245 hx hZ hown (host := "") (Or.inl (hw _ (List.mem_of_getElem? (i := 35) rfl))) Via.refl e245 f236 f228 (Or.inl (hw _ (List.mem_of_getElem? (i := 36) rfl))) (hw _ (List.mem_of_getElem? (i := 1) rfl)) (ty := .int) (by decide) rfl rfl (g := (mkF m 200 #[.val (.ref (oo 0)), .val (.int p1), .val (.double q2), .second, .val (.int (1 : Int32))] [(.int (2 : Int32)), (.ref (oo 0))])) rfl rfl (hb hby d4_200)
  have fw246 : Fld Z h246 (oo 0) "com/example/physarum/physarum/Proposals" "size" "I" (.int (2 : Int32)) := f236.same W246
  have f247 := f228.wr W246
  have f248 := f229.other W246 (Or.inr (slot_ne (Or.inl (hw _ (List.mem_of_getElem? (i := 11) rfl))) (Or.inl (hw _ (List.mem_of_getElem? (i := 36) rfl))) (by decide) (t := (.array .int)) (t' := .int) (by decide) (by decide)))
  have f249 := f230.other W246 (Or.inr (slot_ne (Or.inl (hw _ (List.mem_of_getElem? (i := 13) rfl))) (Or.inl (hw _ (List.mem_of_getElem? (i := 36) rfl))) (by decide) (t := (.array .int)) (t' := .int) (by decide) (by decide)))
  have f250 := f231.other W246 (Or.inr (slot_ne (Or.inl (hw _ (List.mem_of_getElem? (i := 16) rfl))) (Or.inl (hw _ (List.mem_of_getElem? (i := 36) rfl))) (by decide) (t := (.array .double)) (t' := .int) (by decide) (by decide)))
  have f251 := f232.other W246 (Or.inr (slot_ne (Or.inl (hw _ (List.mem_of_getElem? (i := 18) rfl))) (Or.inl (hw _ (List.mem_of_getElem? (i := 36) rfl))) (by decide) (t := (.array .int)) (t' := .int) (by decide) (by decide)))
  have f252 := f233.other W246 (Or.inr (slot_ne (Or.inl (hw _ (List.mem_of_getElem? (i := 20) rfl))) (Or.inl (hw _ (List.mem_of_getElem? (i := 36) rfl))) (by decide) (t := (.array .double)) (t' := .int) (by decide) (by decide)))
  have f253 := f234.other W246 (Or.inr (slot_ne (Or.inl (hw _ (List.mem_of_getElem? (i := 22) rfl))) (Or.inl (hw _ (List.mem_of_getElem? (i := 36) rfl))) (by decide) (t := (.array .int)) (t' := .int) (by decide) (by decide)))
  have f254 := f235.other W246 (Or.inr (slot_ne (Or.inr (hw _ (List.mem_of_getElem? (i := 24) rfl))) (Or.inl (hw _ (List.mem_of_getElem? (i := 36) rfl))) (by decide) (t := (.array .int)) (t' := .int) (by decide) (by decide)))
  have f255 := f237.other W246 (hne 5 0 (by decide) (by decide) (by decide))
  have f256 := f238.other W246 (hne 6 0 (by decide) (by decide) (by decide))
  have f257 := Nat.le_trans f239 (Keep.of_wr W246).1
  have f258 := f240.other W246 (Or.inr (slot_ne (Or.inl (hw _ (List.mem_of_getElem? (i := 38) rfl))) (Or.inl (hw _ (List.mem_of_getElem? (i := 36) rfl))) (by decide) (t := .int) (t' := .int) (by decide) (by decide)))
  have f259 := f241.other W246 (hne 7 0 (by decide) (by decide) (by decide))
  have f260 := f242.other W246 (hne 1 0 (by decide) (by decide) (by decide))
  have f261 := f243.other W246 (hne 2 0 (by decide) (by decide) (by decide))
  have f262 := f244.other W246 (hne 3 0 (by decide) (by decide) (by decide))
  have f263 := fa227.other W246 (hne 4 0 (by decide) (by decide) (by decide))
  have N246 := Fr.snoc X246 N227 (hn 0 (by decide))
  refine EndsQ.go st246 ?_
  show EndsQ _ _ _ _ _ _ _ (T246.setTop (mkF m 203 #[.val (.ref (oo 0)), .val (.int p1), .val (.double q2), .second, .val (.int (1 : Int32))] []))
  refine EndsQ.retV X246 hx Bd.notSynchronized Bd.returns (hb hby d4_203) (by decide) (by decide) ?_
  show QAddN1 Z p1 q2 oo kk c0 c1 c2 r0 r1 r2 d0 d1 d2 s1 s2 g0 g1 g2 t0 t1 t2 vx h0 n0 (none) T246.heap _
  rw [e246]
  exact ⟨rfl, N246, f257, ⟨f247, f248, f249, f250, f251, f252, f253, f254, f258, fw246, f260, f261, f262, f263, f255, f256, f259⟩⟩
theorem ef_AddO1 (m : MethodId) (x0 : Addr) (x1 : Int32) (x2 : UInt64) : entryFrame m #[(.ref x0), (.int x1), (.double x2)] 5 = mkF m 0 #[.val (.ref x0), .val (.int x1), .val (.double x2), .second, .unset] [] := by first | (simp [entryFrame, mkF, argsToLocals, Value.category]; done) | rfl
def QAddO1 (Z : State) (p1 : Int32) (q2 : UInt64) (oo : Nat → Addr) (kk : Nat → ClassId) (c0 : Int32) (c1 : Int32) (c2 : Int32) (r0 : Int32) (r1 : Int32) (r2 : Int32) (d0 : UInt64) (d1 : UInt64) (d2 : UInt64) (s1 : Int32) (s2 : Int32) (g0 : UInt64) (g1 : UInt64) (g2 : UInt64) (t0 : Int32) (t1 : Int32) (t2 : Int32) (vx : List Value) (h0 : Heap) (n0 : Nat) (v : Option Value) (h : Heap) (L : List Loc) : Prop := v = none ∧ Fr n0 L ∧ n0 ≤ h.size ∧ own_St Z h oo kk (1 : Int32) (2 : Int32) [(.int c0), (.int c1), (.int c2)] [(.int r0), (.int (0 : Int32)), (.int r2)] [(.double d0), (.double q2), (.double d2)] [(.int (2 : Int32)), (.int s1), (.int s2)] [(.double g0), (.double g1), (.double g2)] [(.int t0), (.int t1), (.int t2)] vx
set_option maxRecDepth 65536 in
set_option maxHeartbeats 40000000 in
theorem rmAddO1 (l : Launch) (Z : State) (a0 : Array Value) (hw : ∀ d ∈ tables_1, d.before a0 Z = true) (ws : List Jvm.Cond) (p1 : Int32) (q2 : UInt64) (oo : Nat → Addr) (kk : Nat → ClassId) (c0 : Int32) (c1 : Int32) (c2 : Int32) (r0 : Int32) (r1 : Int32) (r2 : Int32) (d0 : UInt64) (d1 : UInt64) (d2 : UInt64) (s1 : Int32) (s2 : Int32) (g0 : UInt64) (g1 : UInt64) (g2 : UInt64) (t0 : Int32) (t1 : Int32) (t2 : Int32) (vx : List Value) (h0 : Heap) (n0 : Nat) (Z0 : n0 ≤ h0.size) (hne : own_ne oo) (hn : own_nn n0 oo) (HS : own_St Z h0 oo kk (1 : Int32) (1 : Int32) [(.int c0), (.int c1), (.int c2)] [(.int r0), (.int r1), (.int r2)] [(.double d0), (.double d1), (.double d2)] [(.int (1 : Int32)), (.int s1), (.int s2)] [(.double g0), (.double g1), (.double g2)] [(.int t0), (.int t1), (.int t2)] vx) (hvl : vx.length = 4) (hp : ¬ p1 < (0 : Int32) ∧ p1 < (4 : Int32)) (hix : vx.getD p1.toNatClampNeg (.int (0 : Int32)) = .int (0 : Int32)) :
    MetFree l (⟨"com/example/physarum/physarum/Proposals", "add", "(ID)V"⟩ : MethodName) (head1 (Jvm.Cond.code (⟨"com/example/physarum/physarum/Proposals", "add", "(ID)V"⟩ : MethodName) prog_44_method_3_code 5 none :: ws) ({ frames := 0, cells := 0, slots := 0, locals := 0 } : Room)) (fun a U => a = #[(.ref (oo 0)), (.int p1), (.double q2)] ∧ Z.Warmed39 U.vm ∧ U.heap = h0) (fun _ _ _ _ _ => True) (fun _ U o U' => ∃ v L, o = .returned v ∧ QAddO1 Z p1 q2 oo kk c0 c1 c2 r0 r1 r2 d0 d1 d2 s1 s2 g0 g1 g2 t0 t1 t2 vx h0 n0 v U'.heap L ∧ FrameEnd U o U' L ({ frames := 0, cells := 0, slots := 0, locals := 0 } : Room).cells ({ frames := 0, cells := 0, slots := 0, locals := 0 } : Room).slots) := by
  refine MetFree.of_bodySF (plainFor_of_name pn_4) hisR ?_
  intro p e s m args below meth c s₁ Bd hml0 hP hK
  obtain ⟨rfl, hZ, hh⟩ := hP
  have hx := Bd.exec
  have hby := Bd.bytes
  have hml : c.maxLocals = 5 := hml0
  have hown : s.vm.findClass "com/example/physarum/physarum/Proposals" = some m.cls := findClass_of_methodNamed Bd.named
  have hnm := (name_of_methodNamed Bd.named Bd.method).1
  have X0 : Stand p l e ({ frames := 0, cells := 0, slots := 0, locals := 0 } : Room) s m #[(.ref (oo 0)), (.int p1), (.double q2)] below meth c s₁ [] 0 0 := Stand.of_body Bd
  have e0 : s₁.heap = h0 := by rw [← hh, Bd.state]; rfl
  have N0 := Fr.nil n0
  show EndsQ p.tables e below s (fun v h L => QAddO1 Z p1 q2 oo kk c0 c1 c2 r0 r1 r2 d0 d1 d2 s1 s2 g0 g1 g2 t0 t1 t2 vx h0 n0 v h L) ({ frames := 0, cells := 0, slots := 0, locals := 0 } : Room).cells ({ frames := 0, cells := 0, slots := 0, locals := 0 } : Room).slots _
  refine EndsQ.go (b := s₁.setTop (mkF m 0 #[.val (.ref (oo 0)), .val (.int p1), .val (.double q2), .second, .unset] [])) (fun t k => castTop (ef_AddO1 m (oo 0) p1 q2) k) ?_
  have HS0 := HS
  obtain ⟨SE, SF_candidates, SF_proposed, SF_confidences, SF_starts, SF_arranged, SF_taken, SF_indices, SF_cnt, SF_sz, SA_1, SA_2, SA_3, SA_4, SA_5, SA_6, SA_7⟩ := HS
  refine EndsQ.go (b := s₁.setTop (mkF m 1 #[.val (.ref (oo 0)), .val (.int p1), .val (.double q2), .second, .unset] [(.ref (oo 0))])) (fun t k => ?_) ?_
  · show Steps p.tables e below (s₁.setTop (mkF m 0 #[.val (.ref (oo 0)), .val (.int p1), .val (.double q2), .second, .unset] [])) _
    refine XS.aloadN X0.here hx rfl (hb hby d4_0) rfl rfl ?_
    exact k
  obtain ⟨T101, X101, e101, st101⟩ := getF X0 hx hZ hown (host := "") (Or.inl (hw _ (List.mem_of_getElem? (i := 35) rfl))) Via.refl e0 SF_sz (g := (mkF m 1 #[.val (.ref (oo 0)), .val (.int p1), .val (.double q2), .second, .unset] [(.ref (oo 0))])) rfl rfl (hb hby d4_1)
  refine EndsQ.go st101 ?_
  show EndsQ _ _ _ _ _ _ _ (T101.setTop (mkF m 4 #[.val (.ref (oo 0)), .val (.int p1), .val (.double q2), .second, .unset] [(.int (1 : Int32))]))
  refine EndsQ.go (b := T101.setTop (mkF m 5 #[.val (.ref (oo 0)), .val (.int p1), .val (.double q2), .second, .unset] [(.ref (oo 0)), (.int (1 : Int32))])) (fun t k => ?_) ?_
  · show Steps p.tables e below (T101.setTop (mkF m 4 #[.val (.ref (oo 0)), .val (.int p1), .val (.double q2), .second, .unset] [(.int (1 : Int32))])) _
    refine XS.aloadN X101.here hx rfl (hb hby d4_4) rfl rfl ?_
    exact k
  obtain ⟨T102, X102, e102, st102⟩ := getF X101 hx hZ hown (host := "") (Or.inl (hw _ (List.mem_of_getElem? (i := 15) rfl))) Via.refl e101 SF_confidences (g := (mkF m 5 #[.val (.ref (oo 0)), .val (.int p1), .val (.double q2), .second, .unset] [(.ref (oo 0)), (.int (1 : Int32))])) rfl rfl (hb hby d4_5)
  refine EndsQ.go st102 ?_
  show EndsQ _ _ _ _ _ _ _ (T102.setTop (mkF m 8 #[.val (.ref (oo 0)), .val (.int p1), .val (.double q2), .second, .unset] [(.ref (oo 3)), (.int (1 : Int32))]))
  obtain ⟨cl103, Ar103, -, S103, M103, -, -⟩ := id SA_3
  refine EndsQ.go (fun t k => X102.arraylength hx (by rw [e102]; exact Ar103.1) (State.isArrayOf_alike hZ.alike Ar103.2.1) (g := (mkF m 8 #[.val (.ref (oo 0)), .val (.int p1), .val (.double q2), .second, .unset] [(.ref (oo 3)), (.int (1 : Int32))])) rfl rfl (hb hby d4_8) _ k) ?_
  rw [len_of S103 M103]
  show EndsQ _ _ _ _ _ _ _ (T102.setTop (mkF m 9 #[.val (.ref (oo 0)), .val (.int p1), .val (.double q2), .second, .unset] [(.int (64 : Int32)), (.int (1 : Int32))]))
  refine EndsQ.go (b := T102.setTop (mkF m 47 #[.val (.ref (oo 0)), .val (.int p1), .val (.double q2), .second, .unset] [(.ref (oo 0))])) (fun t k => ?_) ?_
  · show Steps p.tables e below (T102.setTop (mkF m 9 #[.val (.ref (oo 0)), .val (.int p1), .val (.double q2), .second, .unset] [(.int (64 : Int32)), (.int (1 : Int32))])) _
    refine XS.icmpYes X102.here hx rfl (pc0 := 9) (pc' := 46) rfl (hb hby d4_9) rfl (feq (by decide)).2 (by decide) (by decide) ?_
    show Steps p.tables e below (T102.setTop (mkF m 46 #[.val (.ref (oo 0)), .val (.int p1), .val (.double q2), .second, .unset] [])) _
    refine XS.aloadN X102.here hx rfl (hb hby d4_46) rfl rfl ?_
    exact k
  obtain ⟨T104, X104, e104, st104⟩ := getF X102 hx hZ hown (host := "") (Or.inl (hw _ (List.mem_of_getElem? (i := 23) rfl))) Via.refl e102 SF_indices (g := (mkF m 47 #[.val (.ref (oo 0)), .val (.int p1), .val (.double q2), .second, .unset] [(.ref (oo 0))])) rfl rfl (hb hby d4_47)
  refine EndsQ.go st104 ?_
  show EndsQ _ _ _ _ _ _ _ (T104.setTop (mkF m 50 #[.val (.ref (oo 0)), .val (.int p1), .val (.double q2), .second, .unset] [(.ref (oo 7))]))
  refine EndsQ.go (b := T104.setTop (mkF m 51 #[.val (.ref (oo 0)), .val (.int p1), .val (.double q2), .second, .unset] [(.int p1), (.ref (oo 7))])) (fun t k => ?_) ?_
  · show Steps p.tables e below (T104.setTop (mkF m 50 #[.val (.ref (oo 0)), .val (.int p1), .val (.double q2), .second, .unset] [(.ref (oo 7))])) _
    refine XS.iloadN X104.here hx rfl (hb hby d4_50) rfl ?_
    show Steps p.tables e below (T104.setTop (mkF m 51 #[.val (.ref (oo 0)), .val (.int p1), .val (.double q2), .second, .unset] [(.int p1), (.ref (oo 7))])) _
    exact k
  obtain ⟨cl105, Ar105, q105, S105, M105, H105, G105⟩ := id SA_7
  have hin105 : ¬ (p1 < 0 ∨ cl105.slots.size ≤ (p1).toNatClampNeg) := inb_of S105 hp
  have hat105 : cl105.slots[(p1).toNatClampNeg]? = some (.int (0 : Int32)) := Has.at H105 hin105 hix
  refine EndsQ.go (fun t k => X104.iaload hx (j := p1) (v := (.int (0 : Int32))) (by rw [e104]; exact Ar105.1) (State.isArrayOf_alike hZ.alike Ar105.2.1) Ar105.2.2 hin105 hat105 (g := (mkF m 51 #[.val (.ref (oo 0)), .val (.int p1), .val (.double q2), .second, .unset] [(.int p1), (.ref (oo 7))])) rfl rfl (hb hby d4_51) _ k) ?_
  show EndsQ _ _ _ _ _ _ _ (T104.setTop (mkF m 52 #[.val (.ref (oo 0)), .val (.int p1), .val (.double q2), .second, .unset] [(.int (0 : Int32))]))
  refine EndsQ.go (b := T104.setTop (mkF m 162 #[.val (.ref (oo 0)), .val (.int p1), .val (.double q2), .second, .val (.int (0 : Int32))] [(.ref (oo 0))])) (fun t k => ?_) ?_
  · show Steps p.tables e below (T104.setTop (mkF m 52 #[.val (.ref (oo 0)), .val (.int p1), .val (.double q2), .second, .unset] [(.int (0 : Int32))])) _
    refine XS.istore X104.here hx rfl (hb hby d4_52) rfl (l' := #[.val (.ref (oo 0)), .val (.int p1), .val (.double q2), .second, .val (.int (0 : Int32))]) rfl ?_
    refine XS.iload X104.here hx rfl (hb hby d4_54) rfl ?_
    refine XS.ifYes X104.here hx rfl (pc0 := 56) (pc' := 161) rfl (hb hby d4_56) rfl ((if0 _ _).trans (flt (by decide)).2.1) (by decide) (by decide) ?_
    show Steps p.tables e below (T104.setTop (mkF m 161 #[.val (.ref (oo 0)), .val (.int p1), .val (.double q2), .second, .val (.int (0 : Int32))] [])) _
    refine XS.aloadN X104.here hx rfl (hb hby d4_161) rfl rfl ?_
    exact k
  obtain ⟨T106, X106, e106, st106⟩ := getF X104 hx hZ hown (host := "") (Or.inl (hw _ (List.mem_of_getElem? (i := 12) rfl))) Via.refl e104 SF_proposed (g := (mkF m 162 #[.val (.ref (oo 0)), .val (.int p1), .val (.double q2), .second, .val (.int (0 : Int32))] [(.ref (oo 0))])) rfl rfl (hb hby d4_162)
  refine EndsQ.go st106 ?_
  show EndsQ _ _ _ _ _ _ _ (T106.setTop (mkF m 165 #[.val (.ref (oo 0)), .val (.int p1), .val (.double q2), .second, .val (.int (0 : Int32))] [(.ref (oo 2))]))
  refine EndsQ.go (b := T106.setTop (mkF m 166 #[.val (.ref (oo 0)), .val (.int p1), .val (.double q2), .second, .val (.int (0 : Int32))] [(.ref (oo 0)), (.ref (oo 2))])) (fun t k => ?_) ?_
  · show Steps p.tables e below (T106.setTop (mkF m 165 #[.val (.ref (oo 0)), .val (.int p1), .val (.double q2), .second, .val (.int (0 : Int32))] [(.ref (oo 2))])) _
    refine XS.aloadN X106.here hx rfl (hb hby d4_165) rfl rfl ?_
    show Steps p.tables e below (T106.setTop (mkF m 166 #[.val (.ref (oo 0)), .val (.int p1), .val (.double q2), .second, .val (.int (0 : Int32))] [(.ref (oo 0)), (.ref (oo 2))])) _
    exact k
  obtain ⟨T107, X107, e107, st107⟩ := getF X106 hx hZ hown (host := "") (Or.inl (hw _ (List.mem_of_getElem? (i := 35) rfl))) Via.refl e106 SF_sz (g := (mkF m 166 #[.val (.ref (oo 0)), .val (.int p1), .val (.double q2), .second, .val (.int (0 : Int32))] [(.ref (oo 0)), (.ref (oo 2))])) rfl rfl (hb hby d4_166)
  refine EndsQ.go st107 ?_
  show EndsQ _ _ _ _ _ _ _ (T107.setTop (mkF m 169 #[.val (.ref (oo 0)), .val (.int p1), .val (.double q2), .second, .val (.int (0 : Int32))] [(.int (1 : Int32)), (.ref (oo 2))]))
  refine EndsQ.go (b := T107.setTop (mkF m 171 #[.val (.ref (oo 0)), .val (.int p1), .val (.double q2), .second, .val (.int (0 : Int32))] [(.int (0 : Int32)), (.int (1 : Int32)), (.ref (oo 2))])) (fun t k => ?_) ?_
  · show Steps p.tables e below (T107.setTop (mkF m 169 #[.val (.ref (oo 0)), .val (.int p1), .val (.double q2), .second, .val (.int (0 : Int32))] [(.int (1 : Int32)), (.ref (oo 2))])) _
    refine XS.iload X107.here hx rfl (hb hby d4_169) rfl ?_
    exact k
  obtain ⟨cl108, Ar108, q108, S108, M108, H108, G108⟩ := id SA_2
  have hin108 : ¬ ((1 : Int32) < 0 ∨ cl108.slots.size ≤ ((1 : Int32)).toNatClampNeg) := inb_of S108 ⟨by decide, by decide⟩
  obtain ⟨T108, h108, X108, e108, W108, st108⟩ := stI X107 hx hZ e107 Ar108 (j := (1 : Int32)) hin108 (g := (mkF m 171 #[.val (.ref (oo 0)), .val (.int p1), .val (.double q2), .second, .val (.int (0 : Int32))] [(.int (0 : Int32)), (.int (1 : Int32)), (.ref (oo 2))])) rfl rfl (hb hby d4_171)
  have fa108 : Arv Z h108 (oo 2) (kk 2) .int (64 : Int32) [(.int r0), (.int (0 : Int32)), (.int r2)] (.int (0 : Int32)) := Arv.set Ar108 q108 S108 M108 H108 G108 rfl W108 1 rfl (Nat.le_of_ble_eq_true rfl)
  have f109 := SE.wr W108
  have f110 := SF_candidates.other W108 (Or.inl (hne 0 2 (by decide) (by decide) (by decide)))
  have f111 := SF_proposed.other W108 (Or.inl (hne 0 2 (by decide) (by decide) (by decide)))
  have f112 := SF_confidences.other W108 (Or.inl (hne 0 2 (by decide) (by decide) (by decide)))
  have f113 := SF_starts.other W108 (Or.inl (hne 0 2 (by decide) (by decide) (by decide)))
  have f114 := SF_arranged.other W108 (Or.inl (hne 0 2 (by decide) (by decide) (by decide)))
  have f115 := SF_taken.other W108 (Or.inl (hne 0 2 (by decide) (by decide) (by decide)))
  have f116 := SF_indices.other W108 (Or.inl (hne 0 2 (by decide) (by decide) (by decide)))
  have f117 := SF_cnt.other W108 (Or.inl (hne 0 2 (by decide) (by decide) (by decide)))
  have f118 := SF_sz.other W108 (Or.inl (hne 0 2 (by decide) (by decide) (by decide)))
  have f119 := SA_1.other W108 (hne 1 2 (by decide) (by decide) (by decide))
  have f120 := SA_3.other W108 (hne 3 2 (by decide) (by decide) (by decide))
  have f121 := SA_4.other W108 (hne 4 2 (by decide) (by decide) (by decide))
  have f122 := SA_5.other W108 (hne 5 2 (by decide) (by decide) (by decide))
  have f123 := SA_6.other W108 (hne 6 2 (by decide) (by decide) (by decide))
  have f124 := SA_7.other W108 (hne 7 2 (by decide) (by decide) (by decide))
  have f125 := Nat.le_trans Z0 (Keep.of_wr W108).1
  have N108 := Fr.snoc X108 N0 (hn 2 (by decide))
  refine EndsQ.go st108 ?_
  show EndsQ _ _ _ _ _ _ _ (T108.setTop (mkF m 172 #[.val (.ref (oo 0)), .val (.int p1), .val (.double q2), .second, .val (.int (0 : Int32))] []))
  refine EndsQ.go (b := T108.setTop (mkF m 173 #[.val (.ref (oo 0)), .val (.int p1), .val (.double q2), .second, .val (.int (0 : Int32))] [(.ref (oo 0))])) (fun t k => ?_) ?_
  · show Steps p.tables e below (T108.setTop (mkF m 172 #[.val (.ref (oo 0)), .val (.int p1), .val (.double q2), .second, .val (.int (0 : Int32))] [])) _
    refine XS.aloadN X108.here hx rfl (hb hby d4_172) rfl rfl ?_
    exact k
  obtain ⟨T126, X126, e126, st126⟩ := getF X108 hx hZ hown (host := "") (Or.inl (hw _ (List.mem_of_getElem? (i := 15) rfl))) Via.refl e108 f112 (g := (mkF m 173 #[.val (.ref (oo 0)), .val (.int p1), .val (.double q2), .second, .val (.int (0 : Int32))] [(.ref (oo 0))])) rfl rfl (hb hby d4_173)
  refine EndsQ.go st126 ?_
  show EndsQ _ _ _ _ _ _ _ (T126.setTop (mkF m 176 #[.val (.ref (oo 0)), .val (.int p1), .val (.double q2), .second, .val (.int (0 : Int32))] [(.ref (oo 3))]))
  refine EndsQ.go (b := T126.setTop (mkF m 177 #[.val (.ref (oo 0)), .val (.int p1), .val (.double q2), .second, .val (.int (0 : Int32))] [(.ref (oo 0)), (.ref (oo 3))])) (fun t k => ?_) ?_
  · show Steps p.tables e below (T126.setTop (mkF m 176 #[.val (.ref (oo 0)), .val (.int p1), .val (.double q2), .second, .val (.int (0 : Int32))] [(.ref (oo 3))])) _
    refine XS.aloadN X126.here hx rfl (hb hby d4_176) rfl rfl ?_
    exact k
  obtain ⟨T127, X127, e127, st127⟩ := getF X126 hx hZ hown (host := "") (Or.inl (hw _ (List.mem_of_getElem? (i := 35) rfl))) Via.refl e126 f118 (g := (mkF m 177 #[.val (.ref (oo 0)), .val (.int p1), .val (.double q2), .second, .val (.int (0 : Int32))] [(.ref (oo 0)), (.ref (oo 3))])) rfl rfl (hb hby d4_177)
  refine EndsQ.go st127 ?_
  show EndsQ _ _ _ _ _ _ _ (T127.setTop (mkF m 180 #[.val (.ref (oo 0)), .val (.int p1), .val (.double q2), .second, .val (.int (0 : Int32))] [(.int (1 : Int32)), (.ref (oo 3))]))
  refine EndsQ.go (b := T127.setTop (mkF m 181 #[.val (.ref (oo 0)), .val (.int p1), .val (.double q2), .second, .val (.int (0 : Int32))] [(.double q2), (.int (1 : Int32)), (.ref (oo 3))])) (fun t k => ?_) ?_
  · show Steps p.tables e below (T127.setTop (mkF m 180 #[.val (.ref (oo 0)), .val (.int p1), .val (.double q2), .second, .val (.int (0 : Int32))] [(.int (1 : Int32)), (.ref (oo 3))])) _
    refine XS.dloadN X127.here hx rfl (hb hby d4_180) rfl ?_
    show Steps p.tables e below (T127.setTop (mkF m 181 #[.val (.ref (oo 0)), .val (.int p1), .val (.double q2), .second, .val (.int (0 : Int32))] [(.double q2), (.int (1 : Int32)), (.ref (oo 3))])) _
    exact k
  obtain ⟨cl128, Ar128, q128, S128, M128, H128, G128⟩ := id f120
  have hin128 : ¬ ((1 : Int32) < 0 ∨ cl128.slots.size ≤ ((1 : Int32)).toNatClampNeg) := inb_of S128 ⟨by decide, by decide⟩
  obtain ⟨T128, h128, X128, e128, W128, st128⟩ := stD X127 hx hZ e127 Ar128 (j := (1 : Int32)) hin128 (g := (mkF m 181 #[.val (.ref (oo 0)), .val (.int p1), .val (.double q2), .second, .val (.int (0 : Int32))] [(.double q2), (.int (1 : Int32)), (.ref (oo 3))])) rfl rfl (hb hby d4_181)
  have fa128 : Arv Z h128 (oo 3) (kk 3) .double (64 : Int32) [(.double d0), (.double q2), (.double d2)] (.double (0 : UInt64)) := Arv.set Ar128 q128 S128 M128 H128 G128 rfl W128 1 rfl (Nat.le_of_ble_eq_true rfl)
  have f129 := f109.wr W128
  have f130 := f110.other W128 (Or.inl (hne 0 3 (by decide) (by decide) (by decide)))
  have f131 := f111.other W128 (Or.inl (hne 0 3 (by decide) (by decide) (by decide)))
  have f132 := f112.other W128 (Or.inl (hne 0 3 (by decide) (by decide) (by decide)))
  have f133 := f113.other W128 (Or.inl (hne 0 3 (by decide) (by decide) (by decide)))
  have f134 := f114.other W128 (Or.inl (hne 0 3 (by decide) (by decide) (by decide)))
  have f135 := f115.other W128 (Or.inl (hne 0 3 (by decide) (by decide) (by decide)))
  have f136 := f116.other W128 (Or.inl (hne 0 3 (by decide) (by decide) (by decide)))
  have f137 := f117.other W128 (Or.inl (hne 0 3 (by decide) (by decide) (by decide)))
  have f138 := f118.other W128 (Or.inl (hne 0 3 (by decide) (by decide) (by decide)))
  have f139 := f119.other W128 (hne 1 3 (by decide) (by decide) (by decide))
  have f140 := f121.other W128 (hne 4 3 (by decide) (by decide) (by decide))
  have f141 := f122.other W128 (hne 5 3 (by decide) (by decide) (by decide))
  have f142 := f123.other W128 (hne 6 3 (by decide) (by decide) (by decide))
  have f143 := f124.other W128 (hne 7 3 (by decide) (by decide) (by decide))
  have f144 := Nat.le_trans f125 (Keep.of_wr W128).1
  have f145 := fa108.other W128 (hne 2 3 (by decide) (by decide) (by decide))
  have N128 := Fr.snoc X128 N108 (hn 3 (by decide))
  refine EndsQ.go st128 ?_
  show EndsQ _ _ _ _ _ _ _ (T128.setTop (mkF m 182 #[.val (.ref (oo 0)), .val (.int p1), .val (.double q2), .second, .val (.int (0 : Int32))] []))
  refine EndsQ.go (b := T128.setTop (mkF m 183 #[.val (.ref (oo 0)), .val (.int p1), .val (.double q2), .second, .val (.int (0 : Int32))] [(.ref (oo 0))])) (fun t k => ?_) ?_
  · show Steps p.tables e below (T128.setTop (mkF m 182 #[.val (.ref (oo 0)), .val (.int p1), .val (.double q2), .second, .val (.int (0 : Int32))] [])) _
    refine XS.aloadN X128.here hx rfl (hb hby d4_182) rfl rfl ?_
    exact k
  obtain ⟨T146, X146, e146, st146⟩ := getF X128 hx hZ hown (host := "") (Or.inl (hw _ (List.mem_of_getElem? (i := 17) rfl))) Via.refl e128 f133 (g := (mkF m 183 #[.val (.ref (oo 0)), .val (.int p1), .val (.double q2), .second, .val (.int (0 : Int32))] [(.ref (oo 0))])) rfl rfl (hb hby d4_183)
  refine EndsQ.go st146 ?_
  show EndsQ _ _ _ _ _ _ _ (T146.setTop (mkF m 186 #[.val (.ref (oo 0)), .val (.int p1), .val (.double q2), .second, .val (.int (0 : Int32))] [(.ref (oo 4))]))
  refine EndsQ.go (b := T146.setTop (mkF m 189 #[.val (.ref (oo 0)), .val (.int p1), .val (.double q2), .second, .val (.int (0 : Int32))] [(.int (0 : Int32)), (.ref (oo 4)), (.int (0 : Int32)), (.ref (oo 4))])) (fun t k => ?_) ?_
  · show Steps p.tables e below (T146.setTop (mkF m 186 #[.val (.ref (oo 0)), .val (.int p1), .val (.double q2), .second, .val (.int (0 : Int32))] [(.ref (oo 4))])) _
    refine XS.iload X146.here hx rfl (hb hby d4_186) rfl ?_
    refine Jvm.Free.XT.dup2 X146.here hx rfl (hb hby d4_188) rfl rfl rfl ?_
    exact k
  obtain ⟨cl147, Ar147, q147, S147, M147, H147, G147⟩ := id f140
  have hin147 : ¬ ((0 : Int32) < 0 ∨ cl147.slots.size ≤ ((0 : Int32)).toNatClampNeg) := inb_of S147 ⟨by decide, by decide⟩
  have hat147 : cl147.slots[((0 : Int32)).toNatClampNeg]? = some (.int (1 : Int32)) := Has.at H147 hin147 rfl
  refine EndsQ.go (fun t k => X146.iaload hx (j := (0 : Int32)) (v := (.int (1 : Int32))) (by rw [e146]; exact Ar147.1) (State.isArrayOf_alike hZ.alike Ar147.2.1) Ar147.2.2 hin147 hat147 (g := (mkF m 189 #[.val (.ref (oo 0)), .val (.int p1), .val (.double q2), .second, .val (.int (0 : Int32))] [(.int (0 : Int32)), (.ref (oo 4)), (.int (0 : Int32)), (.ref (oo 4))])) rfl rfl (hb hby d4_189) _ k) ?_
  show EndsQ _ _ _ _ _ _ _ (T146.setTop (mkF m 190 #[.val (.ref (oo 0)), .val (.int p1), .val (.double q2), .second, .val (.int (0 : Int32))] [(.int (1 : Int32)), (.int (0 : Int32)), (.ref (oo 4))]))
  refine EndsQ.go (b := T146.setTop (mkF m 192 #[.val (.ref (oo 0)), .val (.int p1), .val (.double q2), .second, .val (.int (0 : Int32))] [(.int (2 : Int32)), (.int (0 : Int32)), (.ref (oo 4))])) (fun t k => ?_) ?_
  · show Steps p.tables e below (T146.setTop (mkF m 190 #[.val (.ref (oo 0)), .val (.int p1), .val (.double q2), .second, .val (.int (0 : Int32))] [(.int (1 : Int32)), (.int (0 : Int32)), (.ref (oo 4))])) _
    refine XS.iconst X146.here hx rfl (hb hby d4_190) ?_
    show Steps p.tables e below (T146.setTop (mkF m 191 #[.val (.ref (oo 0)), .val (.int p1), .val (.double q2), .second, .val (.int (0 : Int32))] [(.int (1 : Int32)), (.int (1 : Int32)), (.int (0 : Int32)), (.ref (oo 4))])) _
    refine XS.iadd X146.here hx rfl (hb hby d4_191) rfl ?_
    show Steps p.tables e below (T146.setTop (mkF m 192 #[.val (.ref (oo 0)), .val (.int p1), .val (.double q2), .second, .val (.int (0 : Int32))] [(.int ((1 : Int32) + (1 : Int32))), (.int (0 : Int32)), (.ref (oo 4))])) _
    rw [(by decide : ((1 : Int32) + (1 : Int32)) = (2 : Int32))]
    show Steps p.tables e below (T146.setTop (mkF m 192 #[.val (.ref (oo 0)), .val (.int p1), .val (.double q2), .second, .val (.int (0 : Int32))] [(.int (2 : Int32)), (.int (0 : Int32)), (.ref (oo 4))])) _
    exact k
  obtain ⟨cl148, Ar148, q148, S148, M148, H148, G148⟩ := id f140
  have hin148 : ¬ ((0 : Int32) < 0 ∨ cl148.slots.size ≤ ((0 : Int32)).toNatClampNeg) := inb_of S148 ⟨by decide, by decide⟩
  obtain ⟨T148, h148, X148, e148, W148, st148⟩ := stI X146 hx hZ e146 Ar148 (j := (0 : Int32)) hin148 (g := (mkF m 192 #[.val (.ref (oo 0)), .val (.int p1), .val (.double q2), .second, .val (.int (0 : Int32))] [(.int (2 : Int32)), (.int (0 : Int32)), (.ref (oo 4))])) rfl rfl (hb hby d4_192)
  have fa148 : Arv Z h148 (oo 4) (kk 4) .int (17 : Int32) [(.int (2 : Int32)), (.int s1), (.int s2)] (.int (0 : Int32)) := Arv.set Ar148 q148 S148 M148 H148 G148 rfl W148 0 rfl (Nat.le_of_ble_eq_true rfl)
  have f149 := f129.wr W148
  have f150 := f130.other W148 (Or.inl (hne 0 4 (by decide) (by decide) (by decide)))
  have f151 := f131.other W148 (Or.inl (hne 0 4 (by decide) (by decide) (by decide)))
  have f152 := f132.other W148 (Or.inl (hne 0 4 (by decide) (by decide) (by decide)))
  have f153 := f133.other W148 (Or.inl (hne 0 4 (by decide) (by decide) (by decide)))
  have f154 := f134.other W148 (Or.inl (hne 0 4 (by decide) (by decide) (by decide)))
  have f155 := f135.other W148 (Or.inl (hne 0 4 (by decide) (by decide) (by decide)))
  have f156 := f136.other W148 (Or.inl (hne 0 4 (by decide) (by decide) (by decide)))
  have f157 := f137.other W148 (Or.inl (hne 0 4 (by decide) (by decide) (by decide)))
  have f158 := f138.other W148 (Or.inl (hne 0 4 (by decide) (by decide) (by decide)))
  have f159 := f139.other W148 (hne 1 4 (by decide) (by decide) (by decide))
  have f160 := f141.other W148 (hne 5 4 (by decide) (by decide) (by decide))
  have f161 := f142.other W148 (hne 6 4 (by decide) (by decide) (by decide))
  have f162 := f143.other W148 (hne 7 4 (by decide) (by decide) (by decide))
  have f163 := Nat.le_trans f144 (Keep.of_wr W148).1
  have f164 := f145.other W148 (hne 2 4 (by decide) (by decide) (by decide))
  have f165 := fa128.other W148 (hne 3 4 (by decide) (by decide) (by decide))
  have N148 := Fr.snoc X148 N128 (hn 4 (by decide))
  refine EndsQ.go st148 ?_
  show EndsQ _ _ _ _ _ _ _ (T148.setTop (mkF m 193 #[.val (.ref (oo 0)), .val (.int p1), .val (.double q2), .second, .val (.int (0 : Int32))] []))
  refine EndsQ.go (b := T148.setTop (mkF m 195 #[.val (.ref (oo 0)), .val (.int p1), .val (.double q2), .second, .val (.int (0 : Int32))] [(.ref (oo 0)), (.ref (oo 0))])) (fun t k => ?_) ?_
  · show Steps p.tables e below (T148.setTop (mkF m 193 #[.val (.ref (oo 0)), .val (.int p1), .val (.double q2), .second, .val (.int (0 : Int32))] [])) _
    refine XS.aloadN X148.here hx rfl (hb hby d4_193) rfl rfl ?_
    refine XS.dup X148.here hx rfl (hb hby d4_194) rfl rfl ?_
    exact k
  obtain ⟨T166, X166, e166, st166⟩ := getF X148 hx hZ hown (host := "") (Or.inl (hw _ (List.mem_of_getElem? (i := 35) rfl))) Via.refl e148 f158 (g := (mkF m 195 #[.val (.ref (oo 0)), .val (.int p1), .val (.double q2), .second, .val (.int (0 : Int32))] [(.ref (oo 0)), (.ref (oo 0))])) rfl rfl (hb hby d4_195)
  refine EndsQ.go st166 ?_
  show EndsQ _ _ _ _ _ _ _ (T166.setTop (mkF m 198 #[.val (.ref (oo 0)), .val (.int p1), .val (.double q2), .second, .val (.int (0 : Int32))] [(.int (1 : Int32)), (.ref (oo 0))]))
  refine EndsQ.go (b := T166.setTop (mkF m 200 #[.val (.ref (oo 0)), .val (.int p1), .val (.double q2), .second, .val (.int (0 : Int32))] [(.int (2 : Int32)), (.ref (oo 0))])) (fun t k => ?_) ?_
  · show Steps p.tables e below (T166.setTop (mkF m 198 #[.val (.ref (oo 0)), .val (.int p1), .val (.double q2), .second, .val (.int (0 : Int32))] [(.int (1 : Int32)), (.ref (oo 0))])) _
    refine XS.iconst X166.here hx rfl (hb hby d4_198) ?_
    show Steps p.tables e below (T166.setTop (mkF m 199 #[.val (.ref (oo 0)), .val (.int p1), .val (.double q2), .second, .val (.int (0 : Int32))] [(.int (1 : Int32)), (.int (1 : Int32)), (.ref (oo 0))])) _
    refine XS.iadd X166.here hx rfl (hb hby d4_199) rfl ?_
    show Steps p.tables e below (T166.setTop (mkF m 200 #[.val (.ref (oo 0)), .val (.int p1), .val (.double q2), .second, .val (.int (0 : Int32))] [(.int ((1 : Int32) + (1 : Int32))), (.ref (oo 0))])) _
    rw [(by decide : ((1 : Int32) + (1 : Int32)) = (2 : Int32))]
    show Steps p.tables e below (T166.setTop (mkF m 200 #[.val (.ref (oo 0)), .val (.int p1), .val (.double q2), .second, .val (.int (0 : Int32))] [(.int (2 : Int32)), (.ref (oo 0))])) _
    exact k
  obtain ⟨T167, h167, X167, e167, W167, st167⟩ := putF X166 hx hZ hown (host := "") (Or.inl (hw _ (List.mem_of_getElem? (i := 35) rfl))) Via.refl e166 f158 f149 (Or.inl (hw _ (List.mem_of_getElem? (i := 36) rfl))) (hw _ (List.mem_of_getElem? (i := 1) rfl)) (ty := .int) (by decide) rfl rfl (g := (mkF m 200 #[.val (.ref (oo 0)), .val (.int p1), .val (.double q2), .second, .val (.int (0 : Int32))] [(.int (2 : Int32)), (.ref (oo 0))])) rfl rfl (hb hby d4_200)
  have fw167 : Fld Z h167 (oo 0) "com/example/physarum/physarum/Proposals" "size" "I" (.int (2 : Int32)) := f158.same W167
  have f168 := f149.wr W167
  have f169 := f150.other W167 (Or.inr (slot_ne (Or.inl (hw _ (List.mem_of_getElem? (i := 11) rfl))) (Or.inl (hw _ (List.mem_of_getElem? (i := 36) rfl))) (by decide) (t := (.array .int)) (t' := .int) (by decide) (by decide)))
  have f170 := f151.other W167 (Or.inr (slot_ne (Or.inl (hw _ (List.mem_of_getElem? (i := 13) rfl))) (Or.inl (hw _ (List.mem_of_getElem? (i := 36) rfl))) (by decide) (t := (.array .int)) (t' := .int) (by decide) (by decide)))
  have f171 := f152.other W167 (Or.inr (slot_ne (Or.inl (hw _ (List.mem_of_getElem? (i := 16) rfl))) (Or.inl (hw _ (List.mem_of_getElem? (i := 36) rfl))) (by decide) (t := (.array .double)) (t' := .int) (by decide) (by decide)))
  have f172 := f153.other W167 (Or.inr (slot_ne (Or.inl (hw _ (List.mem_of_getElem? (i := 18) rfl))) (Or.inl (hw _ (List.mem_of_getElem? (i := 36) rfl))) (by decide) (t := (.array .int)) (t' := .int) (by decide) (by decide)))
  have f173 := f154.other W167 (Or.inr (slot_ne (Or.inl (hw _ (List.mem_of_getElem? (i := 20) rfl))) (Or.inl (hw _ (List.mem_of_getElem? (i := 36) rfl))) (by decide) (t := (.array .double)) (t' := .int) (by decide) (by decide)))
  have f174 := f155.other W167 (Or.inr (slot_ne (Or.inl (hw _ (List.mem_of_getElem? (i := 22) rfl))) (Or.inl (hw _ (List.mem_of_getElem? (i := 36) rfl))) (by decide) (t := (.array .int)) (t' := .int) (by decide) (by decide)))
  have f175 := f156.other W167 (Or.inr (slot_ne (Or.inr (hw _ (List.mem_of_getElem? (i := 24) rfl))) (Or.inl (hw _ (List.mem_of_getElem? (i := 36) rfl))) (by decide) (t := (.array .int)) (t' := .int) (by decide) (by decide)))
  have f176 := f157.other W167 (Or.inr (slot_ne (Or.inl (hw _ (List.mem_of_getElem? (i := 38) rfl))) (Or.inl (hw _ (List.mem_of_getElem? (i := 36) rfl))) (by decide) (t := .int) (t' := .int) (by decide) (by decide)))
  have f177 := f159.other W167 (hne 1 0 (by decide) (by decide) (by decide))
  have f178 := f160.other W167 (hne 5 0 (by decide) (by decide) (by decide))
  have f179 := f161.other W167 (hne 6 0 (by decide) (by decide) (by decide))
  have f180 := f162.other W167 (hne 7 0 (by decide) (by decide) (by decide))
  have f181 := Nat.le_trans f163 (Keep.of_wr W167).1
  have f182 := f164.other W167 (hne 2 0 (by decide) (by decide) (by decide))
  have f183 := f165.other W167 (hne 3 0 (by decide) (by decide) (by decide))
  have f184 := fa148.other W167 (hne 4 0 (by decide) (by decide) (by decide))
  have N167 := Fr.snoc X167 N148 (hn 0 (by decide))
  refine EndsQ.go st167 ?_
  show EndsQ _ _ _ _ _ _ _ (T167.setTop (mkF m 203 #[.val (.ref (oo 0)), .val (.int p1), .val (.double q2), .second, .val (.int (0 : Int32))] []))
  refine EndsQ.retV X167 hx Bd.notSynchronized Bd.returns (hb hby d4_203) (by decide) (by decide) ?_
  show QAddO1 Z p1 q2 oo kk c0 c1 c2 r0 r1 r2 d0 d1 d2 s1 s2 g0 g1 g2 t0 t1 t2 vx h0 n0 (none) T167.heap _
  rw [e167]
  exact ⟨rfl, N167, f181, ⟨f168, f169, f170, f171, f172, f173, f174, f175, f176, fw167, f177, f182, f183, f184, f178, f179, f180⟩⟩
theorem ef_Clr1 (m : MethodId) (x0 : Addr) : entryFrame m #[(.ref x0)] 2 = mkF m 0 #[.val (.ref x0), .unset] [] := by first | (simp [entryFrame, mkF, argsToLocals, Value.category]; done) | rfl
def QClr1 (Z : State) (oo : Nat → Addr) (kk : Nat → ClassId) (c0 : Int32) (c1 : Int32) (c2 : Int32) (r0 : Int32) (r1 : Int32) (r2 : Int32) (d0 : UInt64) (d1 : UInt64) (d2 : UInt64) (s0 : Int32) (s1 : Int32) (s2 : Int32) (g0 : UInt64) (g1 : UInt64) (g2 : UInt64) (t0 : Int32) (t1 : Int32) (t2 : Int32) (vx : List Value) (h0 : Heap) (n0 : Nat) (v : Option Value) (h : Heap) (L : List Loc) : Prop := v = none ∧ Fr n0 L ∧ n0 ≤ h.size ∧ own_St Z h oo kk (0 : Int32) (0 : Int32) [(.int c0), (.int c1), (.int c2)] [(.int r0), (.int r1), (.int r2)] [(.double d0), (.double d1), (.double d2)] [(.int s0), (.int s1), (.int s2)] [(.double g0), (.double g1), (.double g2)] [(.int t0), (.int t1), (.int t2)] (vx.set (c0).toNatClampNeg (.int (-1 : Int32)))
set_option maxRecDepth 65536 in
set_option maxHeartbeats 40000000 in
theorem rmClr1 (l : Launch) (Z : State) (a0 : Array Value) (hw : ∀ d ∈ tables_1, d.before a0 Z = true) (ws : List Jvm.Cond) (oo : Nat → Addr) (kk : Nat → ClassId) (c0 : Int32) (c1 : Int32) (c2 : Int32) (r0 : Int32) (r1 : Int32) (r2 : Int32) (d0 : UInt64) (d1 : UInt64) (d2 : UInt64) (s0 : Int32) (s1 : Int32) (s2 : Int32) (g0 : UInt64) (g1 : UInt64) (g2 : UInt64) (t0 : Int32) (t1 : Int32) (t2 : Int32) (vx : List Value) (h0 : Heap) (n0 : Nat) (Z0 : n0 ≤ h0.size) (hne : own_ne oo) (hn : own_nn n0 oo) (HS : own_St Z h0 oo kk (1 : Int32) (2 : Int32) [(.int c0), (.int c1), (.int c2)] [(.int r0), (.int r1), (.int r2)] [(.double d0), (.double d1), (.double d2)] [(.int s0), (.int s1), (.int s2)] [(.double g0), (.double g1), (.double g2)] [(.int t0), (.int t1), (.int t2)] vx) (hvl : vx.length = 4) (hp0 : ¬ c0 < (0 : Int32) ∧ c0 < (4 : Int32)) :
    MetFree l (⟨"com/example/physarum/physarum/Proposals", "clear", "()V"⟩ : MethodName) (head1 (Jvm.Cond.code (⟨"com/example/physarum/physarum/Proposals", "clear", "()V"⟩ : MethodName) prog_44_method_2_code 2 none :: ws) ({ frames := 0, cells := 0, slots := 0, locals := 0 } : Room)) (fun a U => a = #[(.ref (oo 0))] ∧ Z.Warmed39 U.vm ∧ U.heap = h0) (fun _ _ _ _ _ => True) (fun _ U o U' => ∃ v L, o = .returned v ∧ QClr1 Z oo kk c0 c1 c2 r0 r1 r2 d0 d1 d2 s0 s1 s2 g0 g1 g2 t0 t1 t2 vx h0 n0 v U'.heap L ∧ FrameEnd U o U' L ({ frames := 0, cells := 0, slots := 0, locals := 0 } : Room).cells ({ frames := 0, cells := 0, slots := 0, locals := 0 } : Room).slots) := by
  refine MetFree.of_bodySF (plainFor_of_name pn_5) hisR ?_
  intro p e s m args below meth c s₁ Bd hml0 hP hK
  obtain ⟨rfl, hZ, hh⟩ := hP
  have hx := Bd.exec
  have hby := Bd.bytes
  have hml : c.maxLocals = 2 := hml0
  have hown : s.vm.findClass "com/example/physarum/physarum/Proposals" = some m.cls := findClass_of_methodNamed Bd.named
  have hnm := (name_of_methodNamed Bd.named Bd.method).1
  have X0 : Stand p l e ({ frames := 0, cells := 0, slots := 0, locals := 0 } : Room) s m #[(.ref (oo 0))] below meth c s₁ [] 0 0 := Stand.of_body Bd
  have e0 : s₁.heap = h0 := by rw [← hh, Bd.state]; rfl
  have N0 := Fr.nil n0
  show EndsQ p.tables e below s (fun v h L => QClr1 Z oo kk c0 c1 c2 r0 r1 r2 d0 d1 d2 s0 s1 s2 g0 g1 g2 t0 t1 t2 vx h0 n0 v h L) ({ frames := 0, cells := 0, slots := 0, locals := 0 } : Room).cells ({ frames := 0, cells := 0, slots := 0, locals := 0 } : Room).slots _
  refine EndsQ.go (b := s₁.setTop (mkF m 0 #[.val (.ref (oo 0)), .unset] [])) (fun t k => castTop (ef_Clr1 m (oo 0)) k) ?_
  have HS0 := HS
  obtain ⟨SE, SF_candidates, SF_proposed, SF_confidences, SF_starts, SF_arranged, SF_taken, SF_indices, SF_cnt, SF_sz, SA_1, SA_2, SA_3, SA_4, SA_5, SA_6, SA_7⟩ := HS
  refine EndsQ.go (b := s₁.setTop (mkF m 4 #[.val (.ref (oo 0)), .val (.int (0 : Int32))] [(.ref (oo 0)), (.int (0 : Int32))])) (fun t k => ?_) ?_
  · show Steps p.tables e below (s₁.setTop (mkF m 0 #[.val (.ref (oo 0)), .unset] [])) _
    refine XS.iconst X0.here hx rfl (hb hby d5_0) ?_
    refine XS.istoreN X0.here hx rfl (hb hby d5_1) rfl (l' := #[.val (.ref (oo 0)), .val (.int (0 : Int32))]) rfl ?_
    refine XS.iloadN X0.here hx rfl (hb hby d5_2) rfl ?_
    refine XS.aloadN X0.here hx rfl (hb hby d5_3) rfl rfl ?_
    show Steps p.tables e below (s₁.setTop (mkF m 4 #[.val (.ref (oo 0)), .val (.int (0 : Int32))] [(.ref (oo 0)), (.int (0 : Int32))])) _
    exact k
  obtain ⟨T101, X101, e101, st101⟩ := getF X0 hx hZ hown (host := "") (Or.inl (hw _ (List.mem_of_getElem? (i := 37) rfl))) Via.refl e0 SF_cnt (g := (mkF m 4 #[.val (.ref (oo 0)), .val (.int (0 : Int32))] [(.ref (oo 0)), (.int (0 : Int32))])) rfl rfl (hb hby d5_4)
  refine EndsQ.go st101 ?_
  show EndsQ _ _ _ _ _ _ _ (T101.setTop (mkF m 7 #[.val (.ref (oo 0)), .val (.int (0 : Int32))] [(.int (1 : Int32)), (.int (0 : Int32))]))
  refine EndsQ.go (b := T101.setTop (mkF m 11 #[.val (.ref (oo 0)), .val (.int (0 : Int32))] [(.ref (oo 0))])) (fun t k => ?_) ?_
  · show Steps p.tables e below (T101.setTop (mkF m 7 #[.val (.ref (oo 0)), .val (.int (0 : Int32))] [(.int (1 : Int32)), (.int (0 : Int32))])) _
    refine XS.icmpNo X101.here hx rfl (hb hby d5_7) rfl (tlt (by decide)).2.1 ?_
    show Steps p.tables e below (T101.setTop (mkF m 10 #[.val (.ref (oo 0)), .val (.int (0 : Int32))] [])) _
    refine XS.aloadN X101.here hx rfl (hb hby d5_10) rfl rfl ?_
    exact k
  obtain ⟨T102, X102, e102, st102⟩ := getF X101 hx hZ hown (host := "") (Or.inl (hw _ (List.mem_of_getElem? (i := 23) rfl))) Via.refl e101 SF_indices (g := (mkF m 11 #[.val (.ref (oo 0)), .val (.int (0 : Int32))] [(.ref (oo 0))])) rfl rfl (hb hby d5_11)
  refine EndsQ.go st102 ?_
  show EndsQ _ _ _ _ _ _ _ (T102.setTop (mkF m 14 #[.val (.ref (oo 0)), .val (.int (0 : Int32))] [(.ref (oo 7))]))
  refine EndsQ.go (b := T102.setTop (mkF m 15 #[.val (.ref (oo 0)), .val (.int (0 : Int32))] [(.ref (oo 0)), (.ref (oo 7))])) (fun t k => ?_) ?_
  · show Steps p.tables e below (T102.setTop (mkF m 14 #[.val (.ref (oo 0)), .val (.int (0 : Int32))] [(.ref (oo 7))])) _
    refine XS.aloadN X102.here hx rfl (hb hby d5_14) rfl rfl ?_
    exact k
  obtain ⟨T103, X103, e103, st103⟩ := getF X102 hx hZ hown (host := "") (Or.inl (hw _ (List.mem_of_getElem? (i := 10) rfl))) Via.refl e102 SF_candidates (g := (mkF m 15 #[.val (.ref (oo 0)), .val (.int (0 : Int32))] [(.ref (oo 0)), (.ref (oo 7))])) rfl rfl (hb hby d5_15)
  refine EndsQ.go st103 ?_
  show EndsQ _ _ _ _ _ _ _ (T103.setTop (mkF m 18 #[.val (.ref (oo 0)), .val (.int (0 : Int32))] [(.ref (oo 1)), (.ref (oo 7))]))
  refine EndsQ.go (b := T103.setTop (mkF m 19 #[.val (.ref (oo 0)), .val (.int (0 : Int32))] [(.int (0 : Int32)), (.ref (oo 1)), (.ref (oo 7))])) (fun t k => ?_) ?_
  · show Steps p.tables e below (T103.setTop (mkF m 18 #[.val (.ref (oo 0)), .val (.int (0 : Int32))] [(.ref (oo 1)), (.ref (oo 7))])) _
    refine XS.iloadN X103.here hx rfl (hb hby d5_18) rfl ?_
    exact k
  obtain ⟨cl104, Ar104, q104, S104, M104, H104, G104⟩ := id SA_1
  have hin104 : ¬ ((0 : Int32) < 0 ∨ cl104.slots.size ≤ ((0 : Int32)).toNatClampNeg) := inb_of S104 ⟨by decide, by decide⟩
  have hat104 : cl104.slots[((0 : Int32)).toNatClampNeg]? = some (.int c0) := Has.at H104 hin104 rfl
  refine EndsQ.go (fun t k => X103.iaload hx (j := (0 : Int32)) (v := (.int c0)) (by rw [e103]; exact Ar104.1) (State.isArrayOf_alike hZ.alike Ar104.2.1) Ar104.2.2 hin104 hat104 (g := (mkF m 19 #[.val (.ref (oo 0)), .val (.int (0 : Int32))] [(.int (0 : Int32)), (.ref (oo 1)), (.ref (oo 7))])) rfl rfl (hb hby d5_19) _ k) ?_
  show EndsQ _ _ _ _ _ _ _ (T103.setTop (mkF m 20 #[.val (.ref (oo 0)), .val (.int (0 : Int32))] [(.int c0), (.ref (oo 7))]))
  refine EndsQ.go (b := T103.setTop (mkF m 21 #[.val (.ref (oo 0)), .val (.int (0 : Int32))] [(.int (-1 : Int32)), (.int c0), (.ref (oo 7))])) (fun t k => ?_) ?_
  · show Steps p.tables e below (T103.setTop (mkF m 20 #[.val (.ref (oo 0)), .val (.int (0 : Int32))] [(.int c0), (.ref (oo 7))])) _
    refine XS.iconst X103.here hx rfl (hb hby d5_20) ?_
    show Steps p.tables e below (T103.setTop (mkF m 21 #[.val (.ref (oo 0)), .val (.int (0 : Int32))] [(.int (-1 : Int32)), (.int c0), (.ref (oo 7))])) _
    exact k
  obtain ⟨cl105, Ar105, q105, S105, M105, H105, G105⟩ := id SA_7
  have hin105 : ¬ (c0 < 0 ∨ cl105.slots.size ≤ (c0).toNatClampNeg) := inb_of S105 hp0
  obtain ⟨T105, h105, X105, e105, W105, st105⟩ := stI X103 hx hZ e103 Ar105 (j := c0) hin105 (g := (mkF m 21 #[.val (.ref (oo 0)), .val (.int (0 : Int32))] [(.int (-1 : Int32)), (.int c0), (.ref (oo 7))])) rfl rfl (hb hby d5_21)
  have fa105 : Arv Z h105 (oo 7) (kk 7) .int (4 : Int32) (vx.set (c0).toNatClampNeg (.int (-1 : Int32))) (.int (0 : Int32)) := Arv.set Ar105 q105 S105 M105 H105 G105 rfl W105 _ rfl (by simp only [List.length_set, hvl]; exact own_lt4 c0 hp0)
  have f106 := SE.wr W105
  have f107 := SF_candidates.other W105 (Or.inl (hne 0 7 (by decide) (by decide) (by decide)))
  have f108 := SF_proposed.other W105 (Or.inl (hne 0 7 (by decide) (by decide) (by decide)))
  have f109 := SF_confidences.other W105 (Or.inl (hne 0 7 (by decide) (by decide) (by decide)))
  have f110 := SF_starts.other W105 (Or.inl (hne 0 7 (by decide) (by decide) (by decide)))
  have f111 := SF_arranged.other W105 (Or.inl (hne 0 7 (by decide) (by decide) (by decide)))
  have f112 := SF_taken.other W105 (Or.inl (hne 0 7 (by decide) (by decide) (by decide)))
  have f113 := SF_indices.other W105 (Or.inl (hne 0 7 (by decide) (by decide) (by decide)))
  have f114 := SF_cnt.other W105 (Or.inl (hne 0 7 (by decide) (by decide) (by decide)))
  have f115 := SF_sz.other W105 (Or.inl (hne 0 7 (by decide) (by decide) (by decide)))
  have f116 := SA_1.other W105 (hne 1 7 (by decide) (by decide) (by decide))
  have f117 := SA_2.other W105 (hne 2 7 (by decide) (by decide) (by decide))
  have f118 := SA_3.other W105 (hne 3 7 (by decide) (by decide) (by decide))
  have f119 := SA_4.other W105 (hne 4 7 (by decide) (by decide) (by decide))
  have f120 := SA_5.other W105 (hne 5 7 (by decide) (by decide) (by decide))
  have f121 := SA_6.other W105 (hne 6 7 (by decide) (by decide) (by decide))
  have f122 := Nat.le_trans Z0 (Keep.of_wr W105).1
  have N105 := Fr.snoc X105 N0 (hn 7 (by decide))
  refine EndsQ.go st105 ?_
  show EndsQ _ _ _ _ _ _ _ (T105.setTop (mkF m 22 #[.val (.ref (oo 0)), .val (.int (0 : Int32))] []))
  refine EndsQ.go (b := T105.setTop (mkF m 4 #[.val (.ref (oo 0)), .val (.int (1 : Int32))] [(.ref (oo 0)), (.int (1 : Int32))])) (fun t k => ?_) ?_
  · show Steps p.tables e below (T105.setTop (mkF m 22 #[.val (.ref (oo 0)), .val (.int (0 : Int32))] [])) _
    refine XS.iinc X105.here hx rfl (hb hby d5_22) rfl (l' := #[.val (.ref (oo 0)), .val (.int ((0 : Int32) + Int32.ofInt 1))]) rfl ?_
    show Steps p.tables e below (T105.setTop (mkF m 25 #[.val (.ref (oo 0)), .val (.int ((0 : Int32) + Int32.ofInt 1))] [])) _
    rw [(by decide : ((0 : Int32) + Int32.ofInt 1) = (1 : Int32))]
    show Steps p.tables e below (T105.setTop (mkF m 25 #[.val (.ref (oo 0)), .val (.int (1 : Int32))] [])) _
    refine XS.goto X105.here hx rfl (pc0 := 25) (pc' := 2) rfl (hb hby d5_25) (by decide) (by decide) ?_
    refine XS.iloadN X105.here hx rfl (hb hby d5_2) rfl ?_
    refine XS.aloadN X105.here hx rfl (hb hby d5_3) rfl rfl ?_
    show Steps p.tables e below (T105.setTop (mkF m 4 #[.val (.ref (oo 0)), .val (.int (1 : Int32))] [(.ref (oo 0)), (.int (1 : Int32))])) _
    exact k
  obtain ⟨T123, X123, e123, st123⟩ := getF X105 hx hZ hown (host := "") (Or.inl (hw _ (List.mem_of_getElem? (i := 37) rfl))) Via.refl e105 f114 (g := (mkF m 4 #[.val (.ref (oo 0)), .val (.int (1 : Int32))] [(.ref (oo 0)), (.int (1 : Int32))])) rfl rfl (hb hby d5_4)
  refine EndsQ.go st123 ?_
  show EndsQ _ _ _ _ _ _ _ (T123.setTop (mkF m 7 #[.val (.ref (oo 0)), .val (.int (1 : Int32))] [(.int (1 : Int32)), (.int (1 : Int32))]))
  refine EndsQ.go (b := T123.setTop (mkF m 30 #[.val (.ref (oo 0)), .val (.int (1 : Int32))] [(.int (0 : Int32)), (.ref (oo 0))])) (fun t k => ?_) ?_
  · show Steps p.tables e below (T123.setTop (mkF m 7 #[.val (.ref (oo 0)), .val (.int (1 : Int32))] [(.int (1 : Int32)), (.int (1 : Int32))])) _
    refine XS.icmpYes X123.here hx rfl (pc0 := 7) (pc' := 28) rfl (hb hby d5_7) rfl (flt (by decide)).2.1 (by decide) (by decide) ?_
    show Steps p.tables e below (T123.setTop (mkF m 28 #[.val (.ref (oo 0)), .val (.int (1 : Int32))] [])) _
    refine XS.aloadN X123.here hx rfl (hb hby d5_28) rfl rfl ?_
    refine XS.iconst X123.here hx rfl (hb hby d5_29) ?_
    exact k
  obtain ⟨T124, h124, X124, e124, W124, st124⟩ := putF X123 hx hZ hown (host := "") (Or.inl (hw _ (List.mem_of_getElem? (i := 37) rfl))) Via.refl e123 f114 f106 (Or.inl (hw _ (List.mem_of_getElem? (i := 38) rfl))) (hw _ (List.mem_of_getElem? (i := 1) rfl)) (ty := .int) (by decide) rfl rfl (g := (mkF m 30 #[.val (.ref (oo 0)), .val (.int (1 : Int32))] [(.int (0 : Int32)), (.ref (oo 0))])) rfl rfl (hb hby d5_30)
  have fw124 : Fld Z h124 (oo 0) "com/example/physarum/physarum/Proposals" "candidateCount" "I" (.int (0 : Int32)) := f114.same W124
  have f125 := f106.wr W124
  have f126 := f107.other W124 (Or.inr (slot_ne (Or.inl (hw _ (List.mem_of_getElem? (i := 11) rfl))) (Or.inl (hw _ (List.mem_of_getElem? (i := 38) rfl))) (by decide) (t := (.array .int)) (t' := .int) (by decide) (by decide)))
  have f127 := f108.other W124 (Or.inr (slot_ne (Or.inl (hw _ (List.mem_of_getElem? (i := 13) rfl))) (Or.inl (hw _ (List.mem_of_getElem? (i := 38) rfl))) (by decide) (t := (.array .int)) (t' := .int) (by decide) (by decide)))
  have f128 := f109.other W124 (Or.inr (slot_ne (Or.inl (hw _ (List.mem_of_getElem? (i := 16) rfl))) (Or.inl (hw _ (List.mem_of_getElem? (i := 38) rfl))) (by decide) (t := (.array .double)) (t' := .int) (by decide) (by decide)))
  have f129 := f110.other W124 (Or.inr (slot_ne (Or.inl (hw _ (List.mem_of_getElem? (i := 18) rfl))) (Or.inl (hw _ (List.mem_of_getElem? (i := 38) rfl))) (by decide) (t := (.array .int)) (t' := .int) (by decide) (by decide)))
  have f130 := f111.other W124 (Or.inr (slot_ne (Or.inl (hw _ (List.mem_of_getElem? (i := 20) rfl))) (Or.inl (hw _ (List.mem_of_getElem? (i := 38) rfl))) (by decide) (t := (.array .double)) (t' := .int) (by decide) (by decide)))
  have f131 := f112.other W124 (Or.inr (slot_ne (Or.inl (hw _ (List.mem_of_getElem? (i := 22) rfl))) (Or.inl (hw _ (List.mem_of_getElem? (i := 38) rfl))) (by decide) (t := (.array .int)) (t' := .int) (by decide) (by decide)))
  have f132 := f113.other W124 (Or.inr (slot_ne (Or.inr (hw _ (List.mem_of_getElem? (i := 24) rfl))) (Or.inl (hw _ (List.mem_of_getElem? (i := 38) rfl))) (by decide) (t := (.array .int)) (t' := .int) (by decide) (by decide)))
  have f133 := f115.other W124 (Or.inr (slot_ne (Or.inl (hw _ (List.mem_of_getElem? (i := 36) rfl))) (Or.inl (hw _ (List.mem_of_getElem? (i := 38) rfl))) (by decide) (t := .int) (t' := .int) (by decide) (by decide)))
  have f134 := f116.other W124 (hne 1 0 (by decide) (by decide) (by decide))
  have f135 := f117.other W124 (hne 2 0 (by decide) (by decide) (by decide))
  have f136 := f118.other W124 (hne 3 0 (by decide) (by decide) (by decide))
  have f137 := f119.other W124 (hne 4 0 (by decide) (by decide) (by decide))
  have f138 := f120.other W124 (hne 5 0 (by decide) (by decide) (by decide))
  have f139 := f121.other W124 (hne 6 0 (by decide) (by decide) (by decide))
  have f140 := Nat.le_trans f122 (Keep.of_wr W124).1
  have f141 := fa105.other W124 (hne 7 0 (by decide) (by decide) (by decide))
  have N124 := Fr.snoc X124 N105 (hn 0 (by decide))
  refine EndsQ.go st124 ?_
  show EndsQ _ _ _ _ _ _ _ (T124.setTop (mkF m 33 #[.val (.ref (oo 0)), .val (.int (1 : Int32))] []))
  refine EndsQ.go (b := T124.setTop (mkF m 35 #[.val (.ref (oo 0)), .val (.int (1 : Int32))] [(.int (0 : Int32)), (.ref (oo 0))])) (fun t k => ?_) ?_
  · show Steps p.tables e below (T124.setTop (mkF m 33 #[.val (.ref (oo 0)), .val (.int (1 : Int32))] [])) _
    refine XS.aloadN X124.here hx rfl (hb hby d5_33) rfl rfl ?_
    refine XS.iconst X124.here hx rfl (hb hby d5_34) ?_
    show Steps p.tables e below (T124.setTop (mkF m 35 #[.val (.ref (oo 0)), .val (.int (1 : Int32))] [(.int (0 : Int32)), (.ref (oo 0))])) _
    exact k
  obtain ⟨T142, h142, X142, e142, W142, st142⟩ := putF X124 hx hZ hown (host := "") (Or.inl (hw _ (List.mem_of_getElem? (i := 35) rfl))) Via.refl e124 f133 f125 (Or.inl (hw _ (List.mem_of_getElem? (i := 36) rfl))) (hw _ (List.mem_of_getElem? (i := 1) rfl)) (ty := .int) (by decide) rfl rfl (g := (mkF m 35 #[.val (.ref (oo 0)), .val (.int (1 : Int32))] [(.int (0 : Int32)), (.ref (oo 0))])) rfl rfl (hb hby d5_35)
  have fw142 : Fld Z h142 (oo 0) "com/example/physarum/physarum/Proposals" "size" "I" (.int (0 : Int32)) := f133.same W142
  have f143 := f125.wr W142
  have f144 := f126.other W142 (Or.inr (slot_ne (Or.inl (hw _ (List.mem_of_getElem? (i := 11) rfl))) (Or.inl (hw _ (List.mem_of_getElem? (i := 36) rfl))) (by decide) (t := (.array .int)) (t' := .int) (by decide) (by decide)))
  have f145 := f127.other W142 (Or.inr (slot_ne (Or.inl (hw _ (List.mem_of_getElem? (i := 13) rfl))) (Or.inl (hw _ (List.mem_of_getElem? (i := 36) rfl))) (by decide) (t := (.array .int)) (t' := .int) (by decide) (by decide)))
  have f146 := f128.other W142 (Or.inr (slot_ne (Or.inl (hw _ (List.mem_of_getElem? (i := 16) rfl))) (Or.inl (hw _ (List.mem_of_getElem? (i := 36) rfl))) (by decide) (t := (.array .double)) (t' := .int) (by decide) (by decide)))
  have f147 := f129.other W142 (Or.inr (slot_ne (Or.inl (hw _ (List.mem_of_getElem? (i := 18) rfl))) (Or.inl (hw _ (List.mem_of_getElem? (i := 36) rfl))) (by decide) (t := (.array .int)) (t' := .int) (by decide) (by decide)))
  have f148 := f130.other W142 (Or.inr (slot_ne (Or.inl (hw _ (List.mem_of_getElem? (i := 20) rfl))) (Or.inl (hw _ (List.mem_of_getElem? (i := 36) rfl))) (by decide) (t := (.array .double)) (t' := .int) (by decide) (by decide)))
  have f149 := f131.other W142 (Or.inr (slot_ne (Or.inl (hw _ (List.mem_of_getElem? (i := 22) rfl))) (Or.inl (hw _ (List.mem_of_getElem? (i := 36) rfl))) (by decide) (t := (.array .int)) (t' := .int) (by decide) (by decide)))
  have f150 := f132.other W142 (Or.inr (slot_ne (Or.inr (hw _ (List.mem_of_getElem? (i := 24) rfl))) (Or.inl (hw _ (List.mem_of_getElem? (i := 36) rfl))) (by decide) (t := (.array .int)) (t' := .int) (by decide) (by decide)))
  have f151 := f134.other W142 (hne 1 0 (by decide) (by decide) (by decide))
  have f152 := f135.other W142 (hne 2 0 (by decide) (by decide) (by decide))
  have f153 := f136.other W142 (hne 3 0 (by decide) (by decide) (by decide))
  have f154 := f137.other W142 (hne 4 0 (by decide) (by decide) (by decide))
  have f155 := f138.other W142 (hne 5 0 (by decide) (by decide) (by decide))
  have f156 := f139.other W142 (hne 6 0 (by decide) (by decide) (by decide))
  have f157 := Nat.le_trans f140 (Keep.of_wr W142).1
  have f158 := f141.other W142 (hne 7 0 (by decide) (by decide) (by decide))
  have f159 := fw124.other W142 (Or.inr (slot_ne (Or.inl (hw _ (List.mem_of_getElem? (i := 38) rfl))) (Or.inl (hw _ (List.mem_of_getElem? (i := 36) rfl))) (by decide) (t := .int) (t' := .int) (by decide) (by decide)))
  have N142 := Fr.snoc X142 N124 (hn 0 (by decide))
  refine EndsQ.go st142 ?_
  show EndsQ _ _ _ _ _ _ _ (T142.setTop (mkF m 38 #[.val (.ref (oo 0)), .val (.int (1 : Int32))] []))
  refine EndsQ.retV X142 hx Bd.notSynchronized Bd.returns (hb hby d5_38) (by decide) (by decide) ?_
  show QClr1 Z oo kk c0 c1 c2 r0 r1 r2 d0 d1 d2 s0 s1 s2 g0 g1 g2 t0 t1 t2 vx h0 n0 (none) T142.heap _
  rw [e142]
  exact ⟨rfl, N142, f157, ⟨f143, f144, f145, f146, f147, f148, f149, f150, f159, fw142, f151, f152, f153, f154, f155, f156, f158⟩⟩
theorem ef_Clr2 (m : MethodId) (x0 : Addr) : entryFrame m #[(.ref x0)] 2 = mkF m 0 #[.val (.ref x0), .unset] [] := by first | (simp [entryFrame, mkF, argsToLocals, Value.category]; done) | rfl
def QClr2 (Z : State) (oo : Nat → Addr) (kk : Nat → ClassId) (c0 : Int32) (c1 : Int32) (c2 : Int32) (r0 : Int32) (r1 : Int32) (r2 : Int32) (d0 : UInt64) (d1 : UInt64) (d2 : UInt64) (s0 : Int32) (s1 : Int32) (s2 : Int32) (g0 : UInt64) (g1 : UInt64) (g2 : UInt64) (t0 : Int32) (t1 : Int32) (t2 : Int32) (vx : List Value) (h0 : Heap) (n0 : Nat) (v : Option Value) (h : Heap) (L : List Loc) : Prop := v = none ∧ Fr n0 L ∧ n0 ≤ h.size ∧ own_St Z h oo kk (0 : Int32) (0 : Int32) [(.int c0), (.int c1), (.int c2)] [(.int r0), (.int r1), (.int r2)] [(.double d0), (.double d1), (.double d2)] [(.int s0), (.int s1), (.int s2)] [(.double g0), (.double g1), (.double g2)] [(.int t0), (.int t1), (.int t2)] ((vx.set (c0).toNatClampNeg (.int (-1 : Int32))).set (c1).toNatClampNeg (.int (-1 : Int32)))
set_option maxRecDepth 65536 in
set_option maxHeartbeats 40000000 in
theorem rmClr2 (l : Launch) (Z : State) (a0 : Array Value) (hw : ∀ d ∈ tables_1, d.before a0 Z = true) (ws : List Jvm.Cond) (oo : Nat → Addr) (kk : Nat → ClassId) (c0 : Int32) (c1 : Int32) (c2 : Int32) (r0 : Int32) (r1 : Int32) (r2 : Int32) (d0 : UInt64) (d1 : UInt64) (d2 : UInt64) (s0 : Int32) (s1 : Int32) (s2 : Int32) (g0 : UInt64) (g1 : UInt64) (g2 : UInt64) (t0 : Int32) (t1 : Int32) (t2 : Int32) (vx : List Value) (h0 : Heap) (n0 : Nat) (Z0 : n0 ≤ h0.size) (hne : own_ne oo) (hn : own_nn n0 oo) (HS : own_St Z h0 oo kk (2 : Int32) (2 : Int32) [(.int c0), (.int c1), (.int c2)] [(.int r0), (.int r1), (.int r2)] [(.double d0), (.double d1), (.double d2)] [(.int s0), (.int s1), (.int s2)] [(.double g0), (.double g1), (.double g2)] [(.int t0), (.int t1), (.int t2)] vx) (hvl : vx.length = 4) (hp0 : ¬ c0 < (0 : Int32) ∧ c0 < (4 : Int32)) (hp1 : ¬ c1 < (0 : Int32) ∧ c1 < (4 : Int32)) :
    MetFree l (⟨"com/example/physarum/physarum/Proposals", "clear", "()V"⟩ : MethodName) (head1 (Jvm.Cond.code (⟨"com/example/physarum/physarum/Proposals", "clear", "()V"⟩ : MethodName) prog_44_method_2_code 2 none :: ws) ({ frames := 0, cells := 0, slots := 0, locals := 0 } : Room)) (fun a U => a = #[(.ref (oo 0))] ∧ Z.Warmed39 U.vm ∧ U.heap = h0) (fun _ _ _ _ _ => True) (fun _ U o U' => ∃ v L, o = .returned v ∧ QClr2 Z oo kk c0 c1 c2 r0 r1 r2 d0 d1 d2 s0 s1 s2 g0 g1 g2 t0 t1 t2 vx h0 n0 v U'.heap L ∧ FrameEnd U o U' L ({ frames := 0, cells := 0, slots := 0, locals := 0 } : Room).cells ({ frames := 0, cells := 0, slots := 0, locals := 0 } : Room).slots) := by
  refine MetFree.of_bodySF (plainFor_of_name pn_5) hisR ?_
  intro p e s m args below meth c s₁ Bd hml0 hP hK
  obtain ⟨rfl, hZ, hh⟩ := hP
  have hx := Bd.exec
  have hby := Bd.bytes
  have hml : c.maxLocals = 2 := hml0
  have hown : s.vm.findClass "com/example/physarum/physarum/Proposals" = some m.cls := findClass_of_methodNamed Bd.named
  have hnm := (name_of_methodNamed Bd.named Bd.method).1
  have X0 : Stand p l e ({ frames := 0, cells := 0, slots := 0, locals := 0 } : Room) s m #[(.ref (oo 0))] below meth c s₁ [] 0 0 := Stand.of_body Bd
  have e0 : s₁.heap = h0 := by rw [← hh, Bd.state]; rfl
  have N0 := Fr.nil n0
  show EndsQ p.tables e below s (fun v h L => QClr2 Z oo kk c0 c1 c2 r0 r1 r2 d0 d1 d2 s0 s1 s2 g0 g1 g2 t0 t1 t2 vx h0 n0 v h L) ({ frames := 0, cells := 0, slots := 0, locals := 0 } : Room).cells ({ frames := 0, cells := 0, slots := 0, locals := 0 } : Room).slots _
  refine EndsQ.go (b := s₁.setTop (mkF m 0 #[.val (.ref (oo 0)), .unset] [])) (fun t k => castTop (ef_Clr2 m (oo 0)) k) ?_
  have HS0 := HS
  obtain ⟨SE, SF_candidates, SF_proposed, SF_confidences, SF_starts, SF_arranged, SF_taken, SF_indices, SF_cnt, SF_sz, SA_1, SA_2, SA_3, SA_4, SA_5, SA_6, SA_7⟩ := HS
  refine EndsQ.go (b := s₁.setTop (mkF m 4 #[.val (.ref (oo 0)), .val (.int (0 : Int32))] [(.ref (oo 0)), (.int (0 : Int32))])) (fun t k => ?_) ?_
  · show Steps p.tables e below (s₁.setTop (mkF m 0 #[.val (.ref (oo 0)), .unset] [])) _
    refine XS.iconst X0.here hx rfl (hb hby d5_0) ?_
    refine XS.istoreN X0.here hx rfl (hb hby d5_1) rfl (l' := #[.val (.ref (oo 0)), .val (.int (0 : Int32))]) rfl ?_
    refine XS.iloadN X0.here hx rfl (hb hby d5_2) rfl ?_
    refine XS.aloadN X0.here hx rfl (hb hby d5_3) rfl rfl ?_
    show Steps p.tables e below (s₁.setTop (mkF m 4 #[.val (.ref (oo 0)), .val (.int (0 : Int32))] [(.ref (oo 0)), (.int (0 : Int32))])) _
    exact k
  obtain ⟨T101, X101, e101, st101⟩ := getF X0 hx hZ hown (host := "") (Or.inl (hw _ (List.mem_of_getElem? (i := 37) rfl))) Via.refl e0 SF_cnt (g := (mkF m 4 #[.val (.ref (oo 0)), .val (.int (0 : Int32))] [(.ref (oo 0)), (.int (0 : Int32))])) rfl rfl (hb hby d5_4)
  refine EndsQ.go st101 ?_
  show EndsQ _ _ _ _ _ _ _ (T101.setTop (mkF m 7 #[.val (.ref (oo 0)), .val (.int (0 : Int32))] [(.int (2 : Int32)), (.int (0 : Int32))]))
  refine EndsQ.go (b := T101.setTop (mkF m 11 #[.val (.ref (oo 0)), .val (.int (0 : Int32))] [(.ref (oo 0))])) (fun t k => ?_) ?_
  · show Steps p.tables e below (T101.setTop (mkF m 7 #[.val (.ref (oo 0)), .val (.int (0 : Int32))] [(.int (2 : Int32)), (.int (0 : Int32))])) _
    refine XS.icmpNo X101.here hx rfl (hb hby d5_7) rfl (tlt (by decide)).2.1 ?_
    show Steps p.tables e below (T101.setTop (mkF m 10 #[.val (.ref (oo 0)), .val (.int (0 : Int32))] [])) _
    refine XS.aloadN X101.here hx rfl (hb hby d5_10) rfl rfl ?_
    exact k
  obtain ⟨T102, X102, e102, st102⟩ := getF X101 hx hZ hown (host := "") (Or.inl (hw _ (List.mem_of_getElem? (i := 23) rfl))) Via.refl e101 SF_indices (g := (mkF m 11 #[.val (.ref (oo 0)), .val (.int (0 : Int32))] [(.ref (oo 0))])) rfl rfl (hb hby d5_11)
  refine EndsQ.go st102 ?_
  show EndsQ _ _ _ _ _ _ _ (T102.setTop (mkF m 14 #[.val (.ref (oo 0)), .val (.int (0 : Int32))] [(.ref (oo 7))]))
  refine EndsQ.go (b := T102.setTop (mkF m 15 #[.val (.ref (oo 0)), .val (.int (0 : Int32))] [(.ref (oo 0)), (.ref (oo 7))])) (fun t k => ?_) ?_
  · show Steps p.tables e below (T102.setTop (mkF m 14 #[.val (.ref (oo 0)), .val (.int (0 : Int32))] [(.ref (oo 7))])) _
    refine XS.aloadN X102.here hx rfl (hb hby d5_14) rfl rfl ?_
    exact k
  obtain ⟨T103, X103, e103, st103⟩ := getF X102 hx hZ hown (host := "") (Or.inl (hw _ (List.mem_of_getElem? (i := 10) rfl))) Via.refl e102 SF_candidates (g := (mkF m 15 #[.val (.ref (oo 0)), .val (.int (0 : Int32))] [(.ref (oo 0)), (.ref (oo 7))])) rfl rfl (hb hby d5_15)
  refine EndsQ.go st103 ?_
  show EndsQ _ _ _ _ _ _ _ (T103.setTop (mkF m 18 #[.val (.ref (oo 0)), .val (.int (0 : Int32))] [(.ref (oo 1)), (.ref (oo 7))]))
  refine EndsQ.go (b := T103.setTop (mkF m 19 #[.val (.ref (oo 0)), .val (.int (0 : Int32))] [(.int (0 : Int32)), (.ref (oo 1)), (.ref (oo 7))])) (fun t k => ?_) ?_
  · show Steps p.tables e below (T103.setTop (mkF m 18 #[.val (.ref (oo 0)), .val (.int (0 : Int32))] [(.ref (oo 1)), (.ref (oo 7))])) _
    refine XS.iloadN X103.here hx rfl (hb hby d5_18) rfl ?_
    exact k
  obtain ⟨cl104, Ar104, q104, S104, M104, H104, G104⟩ := id SA_1
  have hin104 : ¬ ((0 : Int32) < 0 ∨ cl104.slots.size ≤ ((0 : Int32)).toNatClampNeg) := inb_of S104 ⟨by decide, by decide⟩
  have hat104 : cl104.slots[((0 : Int32)).toNatClampNeg]? = some (.int c0) := Has.at H104 hin104 rfl
  refine EndsQ.go (fun t k => X103.iaload hx (j := (0 : Int32)) (v := (.int c0)) (by rw [e103]; exact Ar104.1) (State.isArrayOf_alike hZ.alike Ar104.2.1) Ar104.2.2 hin104 hat104 (g := (mkF m 19 #[.val (.ref (oo 0)), .val (.int (0 : Int32))] [(.int (0 : Int32)), (.ref (oo 1)), (.ref (oo 7))])) rfl rfl (hb hby d5_19) _ k) ?_
  show EndsQ _ _ _ _ _ _ _ (T103.setTop (mkF m 20 #[.val (.ref (oo 0)), .val (.int (0 : Int32))] [(.int c0), (.ref (oo 7))]))
  refine EndsQ.go (b := T103.setTop (mkF m 21 #[.val (.ref (oo 0)), .val (.int (0 : Int32))] [(.int (-1 : Int32)), (.int c0), (.ref (oo 7))])) (fun t k => ?_) ?_
  · show Steps p.tables e below (T103.setTop (mkF m 20 #[.val (.ref (oo 0)), .val (.int (0 : Int32))] [(.int c0), (.ref (oo 7))])) _
    refine XS.iconst X103.here hx rfl (hb hby d5_20) ?_
    show Steps p.tables e below (T103.setTop (mkF m 21 #[.val (.ref (oo 0)), .val (.int (0 : Int32))] [(.int (-1 : Int32)), (.int c0), (.ref (oo 7))])) _
    exact k
  obtain ⟨cl105, Ar105, q105, S105, M105, H105, G105⟩ := id SA_7
  have hin105 : ¬ (c0 < 0 ∨ cl105.slots.size ≤ (c0).toNatClampNeg) := inb_of S105 hp0
  obtain ⟨T105, h105, X105, e105, W105, st105⟩ := stI X103 hx hZ e103 Ar105 (j := c0) hin105 (g := (mkF m 21 #[.val (.ref (oo 0)), .val (.int (0 : Int32))] [(.int (-1 : Int32)), (.int c0), (.ref (oo 7))])) rfl rfl (hb hby d5_21)
  have fa105 : Arv Z h105 (oo 7) (kk 7) .int (4 : Int32) (vx.set (c0).toNatClampNeg (.int (-1 : Int32))) (.int (0 : Int32)) := Arv.set Ar105 q105 S105 M105 H105 G105 rfl W105 _ rfl (by simp only [List.length_set, hvl]; exact own_lt4 c0 hp0)
  have f106 := SE.wr W105
  have f107 := SF_candidates.other W105 (Or.inl (hne 0 7 (by decide) (by decide) (by decide)))
  have f108 := SF_proposed.other W105 (Or.inl (hne 0 7 (by decide) (by decide) (by decide)))
  have f109 := SF_confidences.other W105 (Or.inl (hne 0 7 (by decide) (by decide) (by decide)))
  have f110 := SF_starts.other W105 (Or.inl (hne 0 7 (by decide) (by decide) (by decide)))
  have f111 := SF_arranged.other W105 (Or.inl (hne 0 7 (by decide) (by decide) (by decide)))
  have f112 := SF_taken.other W105 (Or.inl (hne 0 7 (by decide) (by decide) (by decide)))
  have f113 := SF_indices.other W105 (Or.inl (hne 0 7 (by decide) (by decide) (by decide)))
  have f114 := SF_cnt.other W105 (Or.inl (hne 0 7 (by decide) (by decide) (by decide)))
  have f115 := SF_sz.other W105 (Or.inl (hne 0 7 (by decide) (by decide) (by decide)))
  have f116 := SA_1.other W105 (hne 1 7 (by decide) (by decide) (by decide))
  have f117 := SA_2.other W105 (hne 2 7 (by decide) (by decide) (by decide))
  have f118 := SA_3.other W105 (hne 3 7 (by decide) (by decide) (by decide))
  have f119 := SA_4.other W105 (hne 4 7 (by decide) (by decide) (by decide))
  have f120 := SA_5.other W105 (hne 5 7 (by decide) (by decide) (by decide))
  have f121 := SA_6.other W105 (hne 6 7 (by decide) (by decide) (by decide))
  have f122 := Nat.le_trans Z0 (Keep.of_wr W105).1
  have N105 := Fr.snoc X105 N0 (hn 7 (by decide))
  refine EndsQ.go st105 ?_
  show EndsQ _ _ _ _ _ _ _ (T105.setTop (mkF m 22 #[.val (.ref (oo 0)), .val (.int (0 : Int32))] []))
  refine EndsQ.go (b := T105.setTop (mkF m 4 #[.val (.ref (oo 0)), .val (.int (1 : Int32))] [(.ref (oo 0)), (.int (1 : Int32))])) (fun t k => ?_) ?_
  · show Steps p.tables e below (T105.setTop (mkF m 22 #[.val (.ref (oo 0)), .val (.int (0 : Int32))] [])) _
    refine XS.iinc X105.here hx rfl (hb hby d5_22) rfl (l' := #[.val (.ref (oo 0)), .val (.int ((0 : Int32) + Int32.ofInt 1))]) rfl ?_
    show Steps p.tables e below (T105.setTop (mkF m 25 #[.val (.ref (oo 0)), .val (.int ((0 : Int32) + Int32.ofInt 1))] [])) _
    rw [(by decide : ((0 : Int32) + Int32.ofInt 1) = (1 : Int32))]
    show Steps p.tables e below (T105.setTop (mkF m 25 #[.val (.ref (oo 0)), .val (.int (1 : Int32))] [])) _
    refine XS.goto X105.here hx rfl (pc0 := 25) (pc' := 2) rfl (hb hby d5_25) (by decide) (by decide) ?_
    refine XS.iloadN X105.here hx rfl (hb hby d5_2) rfl ?_
    refine XS.aloadN X105.here hx rfl (hb hby d5_3) rfl rfl ?_
    show Steps p.tables e below (T105.setTop (mkF m 4 #[.val (.ref (oo 0)), .val (.int (1 : Int32))] [(.ref (oo 0)), (.int (1 : Int32))])) _
    exact k
  obtain ⟨T123, X123, e123, st123⟩ := getF X105 hx hZ hown (host := "") (Or.inl (hw _ (List.mem_of_getElem? (i := 37) rfl))) Via.refl e105 f114 (g := (mkF m 4 #[.val (.ref (oo 0)), .val (.int (1 : Int32))] [(.ref (oo 0)), (.int (1 : Int32))])) rfl rfl (hb hby d5_4)
  refine EndsQ.go st123 ?_
  show EndsQ _ _ _ _ _ _ _ (T123.setTop (mkF m 7 #[.val (.ref (oo 0)), .val (.int (1 : Int32))] [(.int (2 : Int32)), (.int (1 : Int32))]))
  refine EndsQ.go (b := T123.setTop (mkF m 11 #[.val (.ref (oo 0)), .val (.int (1 : Int32))] [(.ref (oo 0))])) (fun t k => ?_) ?_
  · show Steps p.tables e below (T123.setTop (mkF m 7 #[.val (.ref (oo 0)), .val (.int (1 : Int32))] [(.int (2 : Int32)), (.int (1 : Int32))])) _
    refine XS.icmpNo X123.here hx rfl (hb hby d5_7) rfl (tlt (by decide)).2.1 ?_
    show Steps p.tables e below (T123.setTop (mkF m 10 #[.val (.ref (oo 0)), .val (.int (1 : Int32))] [])) _
    refine XS.aloadN X123.here hx rfl (hb hby d5_10) rfl rfl ?_
    exact k
  obtain ⟨T124, X124, e124, st124⟩ := getF X123 hx hZ hown (host := "") (Or.inl (hw _ (List.mem_of_getElem? (i := 23) rfl))) Via.refl e123 f113 (g := (mkF m 11 #[.val (.ref (oo 0)), .val (.int (1 : Int32))] [(.ref (oo 0))])) rfl rfl (hb hby d5_11)
  refine EndsQ.go st124 ?_
  show EndsQ _ _ _ _ _ _ _ (T124.setTop (mkF m 14 #[.val (.ref (oo 0)), .val (.int (1 : Int32))] [(.ref (oo 7))]))
  refine EndsQ.go (b := T124.setTop (mkF m 15 #[.val (.ref (oo 0)), .val (.int (1 : Int32))] [(.ref (oo 0)), (.ref (oo 7))])) (fun t k => ?_) ?_
  · show Steps p.tables e below (T124.setTop (mkF m 14 #[.val (.ref (oo 0)), .val (.int (1 : Int32))] [(.ref (oo 7))])) _
    refine XS.aloadN X124.here hx rfl (hb hby d5_14) rfl rfl ?_
    exact k
  obtain ⟨T125, X125, e125, st125⟩ := getF X124 hx hZ hown (host := "") (Or.inl (hw _ (List.mem_of_getElem? (i := 10) rfl))) Via.refl e124 f107 (g := (mkF m 15 #[.val (.ref (oo 0)), .val (.int (1 : Int32))] [(.ref (oo 0)), (.ref (oo 7))])) rfl rfl (hb hby d5_15)
  refine EndsQ.go st125 ?_
  show EndsQ _ _ _ _ _ _ _ (T125.setTop (mkF m 18 #[.val (.ref (oo 0)), .val (.int (1 : Int32))] [(.ref (oo 1)), (.ref (oo 7))]))
  refine EndsQ.go (b := T125.setTop (mkF m 19 #[.val (.ref (oo 0)), .val (.int (1 : Int32))] [(.int (1 : Int32)), (.ref (oo 1)), (.ref (oo 7))])) (fun t k => ?_) ?_
  · show Steps p.tables e below (T125.setTop (mkF m 18 #[.val (.ref (oo 0)), .val (.int (1 : Int32))] [(.ref (oo 1)), (.ref (oo 7))])) _
    refine XS.iloadN X125.here hx rfl (hb hby d5_18) rfl ?_
    exact k
  obtain ⟨cl126, Ar126, q126, S126, M126, H126, G126⟩ := id f116
  have hin126 : ¬ ((1 : Int32) < 0 ∨ cl126.slots.size ≤ ((1 : Int32)).toNatClampNeg) := inb_of S126 ⟨by decide, by decide⟩
  have hat126 : cl126.slots[((1 : Int32)).toNatClampNeg]? = some (.int c1) := Has.at H126 hin126 rfl
  refine EndsQ.go (fun t k => X125.iaload hx (j := (1 : Int32)) (v := (.int c1)) (by rw [e125]; exact Ar126.1) (State.isArrayOf_alike hZ.alike Ar126.2.1) Ar126.2.2 hin126 hat126 (g := (mkF m 19 #[.val (.ref (oo 0)), .val (.int (1 : Int32))] [(.int (1 : Int32)), (.ref (oo 1)), (.ref (oo 7))])) rfl rfl (hb hby d5_19) _ k) ?_
  show EndsQ _ _ _ _ _ _ _ (T125.setTop (mkF m 20 #[.val (.ref (oo 0)), .val (.int (1 : Int32))] [(.int c1), (.ref (oo 7))]))
  refine EndsQ.go (b := T125.setTop (mkF m 21 #[.val (.ref (oo 0)), .val (.int (1 : Int32))] [(.int (-1 : Int32)), (.int c1), (.ref (oo 7))])) (fun t k => ?_) ?_
  · show Steps p.tables e below (T125.setTop (mkF m 20 #[.val (.ref (oo 0)), .val (.int (1 : Int32))] [(.int c1), (.ref (oo 7))])) _
    refine XS.iconst X125.here hx rfl (hb hby d5_20) ?_
    show Steps p.tables e below (T125.setTop (mkF m 21 #[.val (.ref (oo 0)), .val (.int (1 : Int32))] [(.int (-1 : Int32)), (.int c1), (.ref (oo 7))])) _
    exact k
  obtain ⟨cl127, Ar127, q127, S127, M127, H127, G127⟩ := id fa105
  have hin127 : ¬ (c1 < 0 ∨ cl127.slots.size ≤ (c1).toNatClampNeg) := inb_of S127 hp1
  obtain ⟨T127, h127, X127, e127, W127, st127⟩ := stI X125 hx hZ e125 Ar127 (j := c1) hin127 (g := (mkF m 21 #[.val (.ref (oo 0)), .val (.int (1 : Int32))] [(.int (-1 : Int32)), (.int c1), (.ref (oo 7))])) rfl rfl (hb hby d5_21)
  have fa127 : Arv Z h127 (oo 7) (kk 7) .int (4 : Int32) ((vx.set (c0).toNatClampNeg (.int (-1 : Int32))).set (c1).toNatClampNeg (.int (-1 : Int32))) (.int (0 : Int32)) := Arv.set Ar127 q127 S127 M127 H127 G127 rfl W127 _ rfl (by simp only [List.length_set, hvl]; exact own_lt4 c1 hp1)
  have f128 := f106.wr W127
  have f129 := f107.other W127 (Or.inl (hne 0 7 (by decide) (by decide) (by decide)))
  have f130 := f108.other W127 (Or.inl (hne 0 7 (by decide) (by decide) (by decide)))
  have f131 := f109.other W127 (Or.inl (hne 0 7 (by decide) (by decide) (by decide)))
  have f132 := f110.other W127 (Or.inl (hne 0 7 (by decide) (by decide) (by decide)))
  have f133 := f111.other W127 (Or.inl (hne 0 7 (by decide) (by decide) (by decide)))
  have f134 := f112.other W127 (Or.inl (hne 0 7 (by decide) (by decide) (by decide)))
  have f135 := f113.other W127 (Or.inl (hne 0 7 (by decide) (by decide) (by decide)))
  have f136 := f114.other W127 (Or.inl (hne 0 7 (by decide) (by decide) (by decide)))
  have f137 := f115.other W127 (Or.inl (hne 0 7 (by decide) (by decide) (by decide)))
  have f138 := f116.other W127 (hne 1 7 (by decide) (by decide) (by decide))
  have f139 := f117.other W127 (hne 2 7 (by decide) (by decide) (by decide))
  have f140 := f118.other W127 (hne 3 7 (by decide) (by decide) (by decide))
  have f141 := f119.other W127 (hne 4 7 (by decide) (by decide) (by decide))
  have f142 := f120.other W127 (hne 5 7 (by decide) (by decide) (by decide))
  have f143 := f121.other W127 (hne 6 7 (by decide) (by decide) (by decide))
  have f144 := Nat.le_trans f122 (Keep.of_wr W127).1
  have N127 := Fr.snoc X127 N105 (hn 7 (by decide))
  refine EndsQ.go st127 ?_
  show EndsQ _ _ _ _ _ _ _ (T127.setTop (mkF m 22 #[.val (.ref (oo 0)), .val (.int (1 : Int32))] []))
  refine EndsQ.go (b := T127.setTop (mkF m 4 #[.val (.ref (oo 0)), .val (.int (2 : Int32))] [(.ref (oo 0)), (.int (2 : Int32))])) (fun t k => ?_) ?_
  · show Steps p.tables e below (T127.setTop (mkF m 22 #[.val (.ref (oo 0)), .val (.int (1 : Int32))] [])) _
    refine XS.iinc X127.here hx rfl (hb hby d5_22) rfl (l' := #[.val (.ref (oo 0)), .val (.int ((1 : Int32) + Int32.ofInt 1))]) rfl ?_
    show Steps p.tables e below (T127.setTop (mkF m 25 #[.val (.ref (oo 0)), .val (.int ((1 : Int32) + Int32.ofInt 1))] [])) _
    rw [(by decide : ((1 : Int32) + Int32.ofInt 1) = (2 : Int32))]
    show Steps p.tables e below (T127.setTop (mkF m 25 #[.val (.ref (oo 0)), .val (.int (2 : Int32))] [])) _
    refine XS.goto X127.here hx rfl (pc0 := 25) (pc' := 2) rfl (hb hby d5_25) (by decide) (by decide) ?_
    refine XS.iloadN X127.here hx rfl (hb hby d5_2) rfl ?_
    refine XS.aloadN X127.here hx rfl (hb hby d5_3) rfl rfl ?_
    show Steps p.tables e below (T127.setTop (mkF m 4 #[.val (.ref (oo 0)), .val (.int (2 : Int32))] [(.ref (oo 0)), (.int (2 : Int32))])) _
    exact k
  obtain ⟨T145, X145, e145, st145⟩ := getF X127 hx hZ hown (host := "") (Or.inl (hw _ (List.mem_of_getElem? (i := 37) rfl))) Via.refl e127 f136 (g := (mkF m 4 #[.val (.ref (oo 0)), .val (.int (2 : Int32))] [(.ref (oo 0)), (.int (2 : Int32))])) rfl rfl (hb hby d5_4)
  refine EndsQ.go st145 ?_
  show EndsQ _ _ _ _ _ _ _ (T145.setTop (mkF m 7 #[.val (.ref (oo 0)), .val (.int (2 : Int32))] [(.int (2 : Int32)), (.int (2 : Int32))]))
  refine EndsQ.go (b := T145.setTop (mkF m 30 #[.val (.ref (oo 0)), .val (.int (2 : Int32))] [(.int (0 : Int32)), (.ref (oo 0))])) (fun t k => ?_) ?_
  · show Steps p.tables e below (T145.setTop (mkF m 7 #[.val (.ref (oo 0)), .val (.int (2 : Int32))] [(.int (2 : Int32)), (.int (2 : Int32))])) _
    refine XS.icmpYes X145.here hx rfl (pc0 := 7) (pc' := 28) rfl (hb hby d5_7) rfl (flt (by decide)).2.1 (by decide) (by decide) ?_
    show Steps p.tables e below (T145.setTop (mkF m 28 #[.val (.ref (oo 0)), .val (.int (2 : Int32))] [])) _
    refine XS.aloadN X145.here hx rfl (hb hby d5_28) rfl rfl ?_
    refine XS.iconst X145.here hx rfl (hb hby d5_29) ?_
    exact k
  obtain ⟨T146, h146, X146, e146, W146, st146⟩ := putF X145 hx hZ hown (host := "") (Or.inl (hw _ (List.mem_of_getElem? (i := 37) rfl))) Via.refl e145 f136 f128 (Or.inl (hw _ (List.mem_of_getElem? (i := 38) rfl))) (hw _ (List.mem_of_getElem? (i := 1) rfl)) (ty := .int) (by decide) rfl rfl (g := (mkF m 30 #[.val (.ref (oo 0)), .val (.int (2 : Int32))] [(.int (0 : Int32)), (.ref (oo 0))])) rfl rfl (hb hby d5_30)
  have fw146 : Fld Z h146 (oo 0) "com/example/physarum/physarum/Proposals" "candidateCount" "I" (.int (0 : Int32)) := f136.same W146
  have f147 := f128.wr W146
  have f148 := f129.other W146 (Or.inr (slot_ne (Or.inl (hw _ (List.mem_of_getElem? (i := 11) rfl))) (Or.inl (hw _ (List.mem_of_getElem? (i := 38) rfl))) (by decide) (t := (.array .int)) (t' := .int) (by decide) (by decide)))
  have f149 := f130.other W146 (Or.inr (slot_ne (Or.inl (hw _ (List.mem_of_getElem? (i := 13) rfl))) (Or.inl (hw _ (List.mem_of_getElem? (i := 38) rfl))) (by decide) (t := (.array .int)) (t' := .int) (by decide) (by decide)))
  have f150 := f131.other W146 (Or.inr (slot_ne (Or.inl (hw _ (List.mem_of_getElem? (i := 16) rfl))) (Or.inl (hw _ (List.mem_of_getElem? (i := 38) rfl))) (by decide) (t := (.array .double)) (t' := .int) (by decide) (by decide)))
  have f151 := f132.other W146 (Or.inr (slot_ne (Or.inl (hw _ (List.mem_of_getElem? (i := 18) rfl))) (Or.inl (hw _ (List.mem_of_getElem? (i := 38) rfl))) (by decide) (t := (.array .int)) (t' := .int) (by decide) (by decide)))
  have f152 := f133.other W146 (Or.inr (slot_ne (Or.inl (hw _ (List.mem_of_getElem? (i := 20) rfl))) (Or.inl (hw _ (List.mem_of_getElem? (i := 38) rfl))) (by decide) (t := (.array .double)) (t' := .int) (by decide) (by decide)))
  have f153 := f134.other W146 (Or.inr (slot_ne (Or.inl (hw _ (List.mem_of_getElem? (i := 22) rfl))) (Or.inl (hw _ (List.mem_of_getElem? (i := 38) rfl))) (by decide) (t := (.array .int)) (t' := .int) (by decide) (by decide)))
  have f154 := f135.other W146 (Or.inr (slot_ne (Or.inr (hw _ (List.mem_of_getElem? (i := 24) rfl))) (Or.inl (hw _ (List.mem_of_getElem? (i := 38) rfl))) (by decide) (t := (.array .int)) (t' := .int) (by decide) (by decide)))
  have f155 := f137.other W146 (Or.inr (slot_ne (Or.inl (hw _ (List.mem_of_getElem? (i := 36) rfl))) (Or.inl (hw _ (List.mem_of_getElem? (i := 38) rfl))) (by decide) (t := .int) (t' := .int) (by decide) (by decide)))
  have f156 := f138.other W146 (hne 1 0 (by decide) (by decide) (by decide))
  have f157 := f139.other W146 (hne 2 0 (by decide) (by decide) (by decide))
  have f158 := f140.other W146 (hne 3 0 (by decide) (by decide) (by decide))
  have f159 := f141.other W146 (hne 4 0 (by decide) (by decide) (by decide))
  have f160 := f142.other W146 (hne 5 0 (by decide) (by decide) (by decide))
  have f161 := f143.other W146 (hne 6 0 (by decide) (by decide) (by decide))
  have f162 := Nat.le_trans f144 (Keep.of_wr W146).1
  have f163 := fa127.other W146 (hne 7 0 (by decide) (by decide) (by decide))
  have N146 := Fr.snoc X146 N127 (hn 0 (by decide))
  refine EndsQ.go st146 ?_
  show EndsQ _ _ _ _ _ _ _ (T146.setTop (mkF m 33 #[.val (.ref (oo 0)), .val (.int (2 : Int32))] []))
  refine EndsQ.go (b := T146.setTop (mkF m 35 #[.val (.ref (oo 0)), .val (.int (2 : Int32))] [(.int (0 : Int32)), (.ref (oo 0))])) (fun t k => ?_) ?_
  · show Steps p.tables e below (T146.setTop (mkF m 33 #[.val (.ref (oo 0)), .val (.int (2 : Int32))] [])) _
    refine XS.aloadN X146.here hx rfl (hb hby d5_33) rfl rfl ?_
    refine XS.iconst X146.here hx rfl (hb hby d5_34) ?_
    show Steps p.tables e below (T146.setTop (mkF m 35 #[.val (.ref (oo 0)), .val (.int (2 : Int32))] [(.int (0 : Int32)), (.ref (oo 0))])) _
    exact k
  obtain ⟨T164, h164, X164, e164, W164, st164⟩ := putF X146 hx hZ hown (host := "") (Or.inl (hw _ (List.mem_of_getElem? (i := 35) rfl))) Via.refl e146 f155 f147 (Or.inl (hw _ (List.mem_of_getElem? (i := 36) rfl))) (hw _ (List.mem_of_getElem? (i := 1) rfl)) (ty := .int) (by decide) rfl rfl (g := (mkF m 35 #[.val (.ref (oo 0)), .val (.int (2 : Int32))] [(.int (0 : Int32)), (.ref (oo 0))])) rfl rfl (hb hby d5_35)
  have fw164 : Fld Z h164 (oo 0) "com/example/physarum/physarum/Proposals" "size" "I" (.int (0 : Int32)) := f155.same W164
  have f165 := f147.wr W164
  have f166 := f148.other W164 (Or.inr (slot_ne (Or.inl (hw _ (List.mem_of_getElem? (i := 11) rfl))) (Or.inl (hw _ (List.mem_of_getElem? (i := 36) rfl))) (by decide) (t := (.array .int)) (t' := .int) (by decide) (by decide)))
  have f167 := f149.other W164 (Or.inr (slot_ne (Or.inl (hw _ (List.mem_of_getElem? (i := 13) rfl))) (Or.inl (hw _ (List.mem_of_getElem? (i := 36) rfl))) (by decide) (t := (.array .int)) (t' := .int) (by decide) (by decide)))
  have f168 := f150.other W164 (Or.inr (slot_ne (Or.inl (hw _ (List.mem_of_getElem? (i := 16) rfl))) (Or.inl (hw _ (List.mem_of_getElem? (i := 36) rfl))) (by decide) (t := (.array .double)) (t' := .int) (by decide) (by decide)))
  have f169 := f151.other W164 (Or.inr (slot_ne (Or.inl (hw _ (List.mem_of_getElem? (i := 18) rfl))) (Or.inl (hw _ (List.mem_of_getElem? (i := 36) rfl))) (by decide) (t := (.array .int)) (t' := .int) (by decide) (by decide)))
  have f170 := f152.other W164 (Or.inr (slot_ne (Or.inl (hw _ (List.mem_of_getElem? (i := 20) rfl))) (Or.inl (hw _ (List.mem_of_getElem? (i := 36) rfl))) (by decide) (t := (.array .double)) (t' := .int) (by decide) (by decide)))
  have f171 := f153.other W164 (Or.inr (slot_ne (Or.inl (hw _ (List.mem_of_getElem? (i := 22) rfl))) (Or.inl (hw _ (List.mem_of_getElem? (i := 36) rfl))) (by decide) (t := (.array .int)) (t' := .int) (by decide) (by decide)))
  have f172 := f154.other W164 (Or.inr (slot_ne (Or.inr (hw _ (List.mem_of_getElem? (i := 24) rfl))) (Or.inl (hw _ (List.mem_of_getElem? (i := 36) rfl))) (by decide) (t := (.array .int)) (t' := .int) (by decide) (by decide)))
  have f173 := f156.other W164 (hne 1 0 (by decide) (by decide) (by decide))
  have f174 := f157.other W164 (hne 2 0 (by decide) (by decide) (by decide))
  have f175 := f158.other W164 (hne 3 0 (by decide) (by decide) (by decide))
  have f176 := f159.other W164 (hne 4 0 (by decide) (by decide) (by decide))
  have f177 := f160.other W164 (hne 5 0 (by decide) (by decide) (by decide))
  have f178 := f161.other W164 (hne 6 0 (by decide) (by decide) (by decide))
  have f179 := Nat.le_trans f162 (Keep.of_wr W164).1
  have f180 := f163.other W164 (hne 7 0 (by decide) (by decide) (by decide))
  have f181 := fw146.other W164 (Or.inr (slot_ne (Or.inl (hw _ (List.mem_of_getElem? (i := 38) rfl))) (Or.inl (hw _ (List.mem_of_getElem? (i := 36) rfl))) (by decide) (t := .int) (t' := .int) (by decide) (by decide)))
  have N164 := Fr.snoc X164 N146 (hn 0 (by decide))
  refine EndsQ.go st164 ?_
  show EndsQ _ _ _ _ _ _ _ (T164.setTop (mkF m 38 #[.val (.ref (oo 0)), .val (.int (2 : Int32))] []))
  refine EndsQ.retV X164 hx Bd.notSynchronized Bd.returns (hb hby d5_38) (by decide) (by decide) ?_
  show QClr2 Z oo kk c0 c1 c2 r0 r1 r2 d0 d1 d2 s0 s1 s2 g0 g1 g2 t0 t1 t2 vx h0 n0 (none) T164.heap _
  rw [e164]
  exact ⟨rfl, N164, f179, ⟨f165, f166, f167, f168, f169, f170, f171, f172, f181, fw164, f173, f174, f175, f176, f177, f178, f180⟩⟩
theorem ef_Sz (m : MethodId) (x0 : Addr) : entryFrame m #[(.ref x0)] 1 = mkF m 0 #[.val (.ref x0)] [] := by first | (simp [entryFrame, mkF, argsToLocals, Value.category]; done) | rfl
def QSz (Z : State) (oo : Nat → Addr) (kk : Nat → ClassId) (c0 : Int32) (c1 : Int32) (c2 : Int32) (r0 : Int32) (r1 : Int32) (r2 : Int32) (d0 : UInt64) (d1 : UInt64) (d2 : UInt64) (s0 : Int32) (s1 : Int32) (s2 : Int32) (g0 : UInt64) (g1 : UInt64) (g2 : UInt64) (t0 : Int32) (t1 : Int32) (t2 : Int32) (vx : List Value) (cnt : Int32) (sz : Int32) (h0 : Heap) (n0 : Nat) (v : Option Value) (h : Heap) (L : List Loc) : Prop := v = some (.int cnt) ∧ Fr n0 L ∧ h = h0
set_option maxRecDepth 65536 in
set_option maxHeartbeats 40000000 in
theorem rmSz (l : Launch) (Z : State) (a0 : Array Value) (hw : ∀ d ∈ tables_1, d.before a0 Z = true) (ws : List Jvm.Cond) (oo : Nat → Addr) (kk : Nat → ClassId) (c0 : Int32) (c1 : Int32) (c2 : Int32) (r0 : Int32) (r1 : Int32) (r2 : Int32) (d0 : UInt64) (d1 : UInt64) (d2 : UInt64) (s0 : Int32) (s1 : Int32) (s2 : Int32) (g0 : UInt64) (g1 : UInt64) (g2 : UInt64) (t0 : Int32) (t1 : Int32) (t2 : Int32) (vx : List Value) (cnt : Int32) (sz : Int32) (h0 : Heap) (n0 : Nat) (Z0 : n0 ≤ h0.size) (hne : own_ne oo) (hn : own_nn n0 oo) (HS : own_St Z h0 oo kk cnt sz [(.int c0), (.int c1), (.int c2)] [(.int r0), (.int r1), (.int r2)] [(.double d0), (.double d1), (.double d2)] [(.int s0), (.int s1), (.int s2)] [(.double g0), (.double g1), (.double g2)] [(.int t0), (.int t1), (.int t2)] vx) :
    MetFree l (⟨"com/example/physarum/physarum/Proposals", "size", "()I"⟩ : MethodName) (head1 (Jvm.Cond.code (⟨"com/example/physarum/physarum/Proposals", "size", "()I"⟩ : MethodName) prog_44_method_5_code 1 (some .int) :: ws) ({ frames := 0, cells := 0, slots := 0, locals := 0 } : Room)) (fun a U => a = #[(.ref (oo 0))] ∧ Z.Warmed39 U.vm ∧ U.heap = h0) (fun _ _ _ _ _ => True) (fun _ U o U' => ∃ v L, o = .returned v ∧ QSz Z oo kk c0 c1 c2 r0 r1 r2 d0 d1 d2 s0 s1 s2 g0 g1 g2 t0 t1 t2 vx cnt sz h0 n0 v U'.heap L ∧ FrameEnd U o U' L ({ frames := 0, cells := 0, slots := 0, locals := 0 } : Room).cells ({ frames := 0, cells := 0, slots := 0, locals := 0 } : Room).slots) := by
  refine MetFree.of_bodySF (plainFor_of_name pn_8) hisR ?_
  intro p e s m args below meth c s₁ Bd hml0 hP hK
  obtain ⟨rfl, hZ, hh⟩ := hP
  have hx := Bd.exec
  have hby := Bd.bytes
  have hml : c.maxLocals = 1 := hml0
  have hown : s.vm.findClass "com/example/physarum/physarum/Proposals" = some m.cls := findClass_of_methodNamed Bd.named
  have hnm := (name_of_methodNamed Bd.named Bd.method).1
  have X0 : Stand p l e ({ frames := 0, cells := 0, slots := 0, locals := 0 } : Room) s m #[(.ref (oo 0))] below meth c s₁ [] 0 0 := Stand.of_body Bd
  have e0 : s₁.heap = h0 := by rw [← hh, Bd.state]; rfl
  have N0 := Fr.nil n0
  show EndsQ p.tables e below s (fun v h L => QSz Z oo kk c0 c1 c2 r0 r1 r2 d0 d1 d2 s0 s1 s2 g0 g1 g2 t0 t1 t2 vx cnt sz h0 n0 v h L) ({ frames := 0, cells := 0, slots := 0, locals := 0 } : Room).cells ({ frames := 0, cells := 0, slots := 0, locals := 0 } : Room).slots _
  refine EndsQ.go (b := s₁.setTop (mkF m 0 #[.val (.ref (oo 0))] [])) (fun t k => castTop (ef_Sz m (oo 0)) k) ?_
  have HS0 := HS
  obtain ⟨SE, SF_candidates, SF_proposed, SF_confidences, SF_starts, SF_arranged, SF_taken, SF_indices, SF_cnt, SF_sz, SA_1, SA_2, SA_3, SA_4, SA_5, SA_6, SA_7⟩ := HS
  refine EndsQ.go (b := s₁.setTop (mkF m 1 #[.val (.ref (oo 0))] [(.ref (oo 0))])) (fun t k => ?_) ?_
  · show Steps p.tables e below (s₁.setTop (mkF m 0 #[.val (.ref (oo 0))] [])) _
    refine XS.aloadN X0.here hx rfl (hb hby d8_0) rfl rfl ?_
    exact k
  obtain ⟨T101, X101, e101, st101⟩ := getF X0 hx hZ hown (host := "") (Or.inl (hw _ (List.mem_of_getElem? (i := 37) rfl))) Via.refl e0 SF_cnt (g := (mkF m 1 #[.val (.ref (oo 0))] [(.ref (oo 0))])) rfl rfl (hb hby d8_1)
  refine EndsQ.go st101 ?_
  show EndsQ _ _ _ _ _ _ _ (T101.setTop (mkF m 4 #[.val (.ref (oo 0))] [(.int cnt)]))
  refine EndsQ.retI X101 hx Bd.notSynchronized Bd.returns (hb hby d8_4) (by decide) (by decide) ?_
  show QSz Z oo kk c0 c1 c2 r0 r1 r2 d0 d1 d2 s0 s1 s2 g0 g1 g2 t0 t1 t2 vx cnt sz h0 n0 (some (.int cnt)) T101.heap _
  rw [e101]
  exact ⟨rfl, N0, rfl⟩
theorem ef_Ca (m : MethodId) (x0 : Addr) (x1 : Int32) : entryFrame m #[(.ref x0), (.int x1)] 2 = mkF m 0 #[.val (.ref x0), .val (.int x1)] [] := by first | (simp [entryFrame, mkF, argsToLocals, Value.category]; done) | rfl
def QCa (Z : State) (oo : Nat → Addr) (kk : Nat → ClassId) (c0 : Int32) (c1 : Int32) (c2 : Int32) (r0 : Int32) (r1 : Int32) (r2 : Int32) (d0 : UInt64) (d1 : UInt64) (d2 : UInt64) (s0 : Int32) (s1 : Int32) (s2 : Int32) (g0 : UInt64) (g1 : UInt64) (g2 : UInt64) (t0 : Int32) (t1 : Int32) (t2 : Int32) (vx : List Value) (cnt : Int32) (sz : Int32) (h0 : Heap) (n0 : Nat) (v : Option Value) (h : Heap) (L : List Loc) : Prop := v = some (.int c0) ∧ Fr n0 L ∧ h = h0
set_option maxRecDepth 65536 in
set_option maxHeartbeats 40000000 in
theorem rmCa (l : Launch) (Z : State) (a0 : Array Value) (hw : ∀ d ∈ tables_1, d.before a0 Z = true) (ws : List Jvm.Cond) (oo : Nat → Addr) (kk : Nat → ClassId) (c0 : Int32) (c1 : Int32) (c2 : Int32) (r0 : Int32) (r1 : Int32) (r2 : Int32) (d0 : UInt64) (d1 : UInt64) (d2 : UInt64) (s0 : Int32) (s1 : Int32) (s2 : Int32) (g0 : UInt64) (g1 : UInt64) (g2 : UInt64) (t0 : Int32) (t1 : Int32) (t2 : Int32) (vx : List Value) (cnt : Int32) (sz : Int32) (h0 : Heap) (n0 : Nat) (Z0 : n0 ≤ h0.size) (hne : own_ne oo) (hn : own_nn n0 oo) (HS : own_St Z h0 oo kk cnt sz [(.int c0), (.int c1), (.int c2)] [(.int r0), (.int r1), (.int r2)] [(.double d0), (.double d1), (.double d2)] [(.int s0), (.int s1), (.int s2)] [(.double g0), (.double g1), (.double g2)] [(.int t0), (.int t1), (.int t2)] vx) :
    MetFree l (⟨"com/example/physarum/physarum/Proposals", "candidate", "(I)I"⟩ : MethodName) (head1 (Jvm.Cond.code (⟨"com/example/physarum/physarum/Proposals", "candidate", "(I)I"⟩ : MethodName) prog_44_method_6_code 2 (some .int) :: ws) ({ frames := 0, cells := 0, slots := 0, locals := 0 } : Room)) (fun a U => a = #[(.ref (oo 0)), (.int (0 : Int32))] ∧ Z.Warmed39 U.vm ∧ U.heap = h0) (fun _ _ _ _ _ => True) (fun _ U o U' => ∃ v L, o = .returned v ∧ QCa Z oo kk c0 c1 c2 r0 r1 r2 d0 d1 d2 s0 s1 s2 g0 g1 g2 t0 t1 t2 vx cnt sz h0 n0 v U'.heap L ∧ FrameEnd U o U' L ({ frames := 0, cells := 0, slots := 0, locals := 0 } : Room).cells ({ frames := 0, cells := 0, slots := 0, locals := 0 } : Room).slots) := by
  refine MetFree.of_bodySF (plainFor_of_name pn_9) hisR ?_
  intro p e s m args below meth c s₁ Bd hml0 hP hK
  obtain ⟨rfl, hZ, hh⟩ := hP
  have hx := Bd.exec
  have hby := Bd.bytes
  have hml : c.maxLocals = 2 := hml0
  have hown : s.vm.findClass "com/example/physarum/physarum/Proposals" = some m.cls := findClass_of_methodNamed Bd.named
  have hnm := (name_of_methodNamed Bd.named Bd.method).1
  have X0 : Stand p l e ({ frames := 0, cells := 0, slots := 0, locals := 0 } : Room) s m #[(.ref (oo 0)), (.int (0 : Int32))] below meth c s₁ [] 0 0 := Stand.of_body Bd
  have e0 : s₁.heap = h0 := by rw [← hh, Bd.state]; rfl
  have N0 := Fr.nil n0
  show EndsQ p.tables e below s (fun v h L => QCa Z oo kk c0 c1 c2 r0 r1 r2 d0 d1 d2 s0 s1 s2 g0 g1 g2 t0 t1 t2 vx cnt sz h0 n0 v h L) ({ frames := 0, cells := 0, slots := 0, locals := 0 } : Room).cells ({ frames := 0, cells := 0, slots := 0, locals := 0 } : Room).slots _
  refine EndsQ.go (b := s₁.setTop (mkF m 0 #[.val (.ref (oo 0)), .val (.int (0 : Int32))] [])) (fun t k => castTop (ef_Ca m (oo 0) (0 : Int32)) k) ?_
  have HS0 := HS
  obtain ⟨SE, SF_candidates, SF_proposed, SF_confidences, SF_starts, SF_arranged, SF_taken, SF_indices, SF_cnt, SF_sz, SA_1, SA_2, SA_3, SA_4, SA_5, SA_6, SA_7⟩ := HS
  refine EndsQ.go (b := s₁.setTop (mkF m 1 #[.val (.ref (oo 0)), .val (.int (0 : Int32))] [(.ref (oo 0))])) (fun t k => ?_) ?_
  · show Steps p.tables e below (s₁.setTop (mkF m 0 #[.val (.ref (oo 0)), .val (.int (0 : Int32))] [])) _
    refine XS.aloadN X0.here hx rfl (hb hby d9_0) rfl rfl ?_
    exact k
  obtain ⟨T101, X101, e101, st101⟩ := getF X0 hx hZ hown (host := "") (Or.inl (hw _ (List.mem_of_getElem? (i := 10) rfl))) Via.refl e0 SF_candidates (g := (mkF m 1 #[.val (.ref (oo 0)), .val (.int (0 : Int32))] [(.ref (oo 0))])) rfl rfl (hb hby d9_1)
  refine EndsQ.go st101 ?_
  show EndsQ _ _ _ _ _ _ _ (T101.setTop (mkF m 4 #[.val (.ref (oo 0)), .val (.int (0 : Int32))] [(.ref (oo 1))]))
  refine EndsQ.go (b := T101.setTop (mkF m 5 #[.val (.ref (oo 0)), .val (.int (0 : Int32))] [(.int (0 : Int32)), (.ref (oo 1))])) (fun t k => ?_) ?_
  · show Steps p.tables e below (T101.setTop (mkF m 4 #[.val (.ref (oo 0)), .val (.int (0 : Int32))] [(.ref (oo 1))])) _
    refine XS.iloadN X101.here hx rfl (hb hby d9_4) rfl ?_
    exact k
  obtain ⟨cl102, Ar102, q102, S102, M102, H102, G102⟩ := id SA_1
  have hin102 : ¬ ((0 : Int32) < 0 ∨ cl102.slots.size ≤ ((0 : Int32)).toNatClampNeg) := inb_of S102 ⟨by decide, by decide⟩
  have hat102 : cl102.slots[((0 : Int32)).toNatClampNeg]? = some (.int c0) := Has.at H102 hin102 rfl
  refine EndsQ.go (fun t k => X101.iaload hx (j := (0 : Int32)) (v := (.int c0)) (by rw [e101]; exact Ar102.1) (State.isArrayOf_alike hZ.alike Ar102.2.1) Ar102.2.2 hin102 hat102 (g := (mkF m 5 #[.val (.ref (oo 0)), .val (.int (0 : Int32))] [(.int (0 : Int32)), (.ref (oo 1))])) rfl rfl (hb hby d9_5) _ k) ?_
  show EndsQ _ _ _ _ _ _ _ (T101.setTop (mkF m 6 #[.val (.ref (oo 0)), .val (.int (0 : Int32))] [(.int c0)]))
  refine EndsQ.retI X101 hx Bd.notSynchronized Bd.returns (hb hby d9_6) (by decide) (by decide) ?_
  show QCa Z oo kk c0 c1 c2 r0 r1 r2 d0 d1 d2 s0 s1 s2 g0 g1 g2 t0 t1 t2 vx cnt sz h0 n0 (some (.int c0)) T101.heap _
  rw [e101]
  exact ⟨rfl, N0, rfl⟩
theorem ef_Co0 (m : MethodId) (x0 : Addr) (x1 : Int32) : entryFrame m #[(.ref x0), (.int x1)] 2 = mkF m 0 #[.val (.ref x0), .val (.int x1)] [] := by first | (simp [entryFrame, mkF, argsToLocals, Value.category]; done) | rfl
def QCo0 (Z : State) (oo : Nat → Addr) (kk : Nat → ClassId) (c0 : Int32) (c1 : Int32) (c2 : Int32) (r0 : Int32) (r1 : Int32) (r2 : Int32) (d0 : UInt64) (d1 : UInt64) (d2 : UInt64) (s0 : Int32) (s1 : Int32) (s2 : Int32) (g0 : UInt64) (g1 : UInt64) (g2 : UInt64) (t0 : Int32) (t1 : Int32) (t2 : Int32) (vx : List Value) (cnt : Int32) (sz : Int32) (h0 : Heap) (n0 : Nat) (v : Option Value) (h : Heap) (L : List Loc) : Prop := v = some (.int (s1 - s0)) ∧ Fr n0 L ∧ h = h0
set_option maxRecDepth 65536 in
set_option maxHeartbeats 40000000 in
theorem rmCo0 (l : Launch) (Z : State) (a0 : Array Value) (hw : ∀ d ∈ tables_1, d.before a0 Z = true) (ws : List Jvm.Cond) (oo : Nat → Addr) (kk : Nat → ClassId) (c0 : Int32) (c1 : Int32) (c2 : Int32) (r0 : Int32) (r1 : Int32) (r2 : Int32) (d0 : UInt64) (d1 : UInt64) (d2 : UInt64) (s0 : Int32) (s1 : Int32) (s2 : Int32) (g0 : UInt64) (g1 : UInt64) (g2 : UInt64) (t0 : Int32) (t1 : Int32) (t2 : Int32) (vx : List Value) (cnt : Int32) (sz : Int32) (h0 : Heap) (n0 : Nat) (Z0 : n0 ≤ h0.size) (hne : own_ne oo) (hn : own_nn n0 oo) (HS : own_St Z h0 oo kk cnt sz [(.int c0), (.int c1), (.int c2)] [(.int r0), (.int r1), (.int r2)] [(.double d0), (.double d1), (.double d2)] [(.int s0), (.int s1), (.int s2)] [(.double g0), (.double g1), (.double g2)] [(.int t0), (.int t1), (.int t2)] vx) :
    MetFree l (⟨"com/example/physarum/physarum/Proposals", "count", "(I)I"⟩ : MethodName) (head1 (Jvm.Cond.code (⟨"com/example/physarum/physarum/Proposals", "count", "(I)I"⟩ : MethodName) prog_44_method_7_code 2 (some .int) :: ws) ({ frames := 0, cells := 0, slots := 0, locals := 0 } : Room)) (fun a U => a = #[(.ref (oo 0)), (.int (0 : Int32))] ∧ Z.Warmed39 U.vm ∧ U.heap = h0) (fun _ _ _ _ _ => True) (fun _ U o U' => ∃ v L, o = .returned v ∧ QCo0 Z oo kk c0 c1 c2 r0 r1 r2 d0 d1 d2 s0 s1 s2 g0 g1 g2 t0 t1 t2 vx cnt sz h0 n0 v U'.heap L ∧ FrameEnd U o U' L ({ frames := 0, cells := 0, slots := 0, locals := 0 } : Room).cells ({ frames := 0, cells := 0, slots := 0, locals := 0 } : Room).slots) := by
  refine MetFree.of_bodySF (plainFor_of_name pn_7) hisR ?_
  intro p e s m args below meth c s₁ Bd hml0 hP hK
  obtain ⟨rfl, hZ, hh⟩ := hP
  have hx := Bd.exec
  have hby := Bd.bytes
  have hml : c.maxLocals = 2 := hml0
  have hown : s.vm.findClass "com/example/physarum/physarum/Proposals" = some m.cls := findClass_of_methodNamed Bd.named
  have hnm := (name_of_methodNamed Bd.named Bd.method).1
  have X0 : Stand p l e ({ frames := 0, cells := 0, slots := 0, locals := 0 } : Room) s m #[(.ref (oo 0)), (.int (0 : Int32))] below meth c s₁ [] 0 0 := Stand.of_body Bd
  have e0 : s₁.heap = h0 := by rw [← hh, Bd.state]; rfl
  have N0 := Fr.nil n0
  show EndsQ p.tables e below s (fun v h L => QCo0 Z oo kk c0 c1 c2 r0 r1 r2 d0 d1 d2 s0 s1 s2 g0 g1 g2 t0 t1 t2 vx cnt sz h0 n0 v h L) ({ frames := 0, cells := 0, slots := 0, locals := 0 } : Room).cells ({ frames := 0, cells := 0, slots := 0, locals := 0 } : Room).slots _
  refine EndsQ.go (b := s₁.setTop (mkF m 0 #[.val (.ref (oo 0)), .val (.int (0 : Int32))] [])) (fun t k => castTop (ef_Co0 m (oo 0) (0 : Int32)) k) ?_
  have HS0 := HS
  obtain ⟨SE, SF_candidates, SF_proposed, SF_confidences, SF_starts, SF_arranged, SF_taken, SF_indices, SF_cnt, SF_sz, SA_1, SA_2, SA_3, SA_4, SA_5, SA_6, SA_7⟩ := HS
  refine EndsQ.go (b := s₁.setTop (mkF m 1 #[.val (.ref (oo 0)), .val (.int (0 : Int32))] [(.ref (oo 0))])) (fun t k => ?_) ?_
  · show Steps p.tables e below (s₁.setTop (mkF m 0 #[.val (.ref (oo 0)), .val (.int (0 : Int32))] [])) _
    refine XS.aloadN X0.here hx rfl (hb hby d7_0) rfl rfl ?_
    exact k
  obtain ⟨T101, X101, e101, st101⟩ := getF X0 hx hZ hown (host := "") (Or.inl (hw _ (List.mem_of_getElem? (i := 17) rfl))) Via.refl e0 SF_starts (g := (mkF m 1 #[.val (.ref (oo 0)), .val (.int (0 : Int32))] [(.ref (oo 0))])) rfl rfl (hb hby d7_1)
  refine EndsQ.go st101 ?_
  show EndsQ _ _ _ _ _ _ _ (T101.setTop (mkF m 4 #[.val (.ref (oo 0)), .val (.int (0 : Int32))] [(.ref (oo 4))]))
  refine EndsQ.go (b := T101.setTop (mkF m 7 #[.val (.ref (oo 0)), .val (.int (0 : Int32))] [(.int (1 : Int32)), (.ref (oo 4))])) (fun t k => ?_) ?_
  · show Steps p.tables e below (T101.setTop (mkF m 4 #[.val (.ref (oo 0)), .val (.int (0 : Int32))] [(.ref (oo 4))])) _
    refine XS.iloadN X101.here hx rfl (hb hby d7_4) rfl ?_
    refine XS.iconst X101.here hx rfl (hb hby d7_5) ?_
    refine XS.iadd X101.here hx rfl (hb hby d7_6) rfl ?_
    show Steps p.tables e below (T101.setTop (mkF m 7 #[.val (.ref (oo 0)), .val (.int (0 : Int32))] [(.int ((0 : Int32) + (1 : Int32))), (.ref (oo 4))])) _
    rw [(by decide : ((0 : Int32) + (1 : Int32)) = (1 : Int32))]
    show Steps p.tables e below (T101.setTop (mkF m 7 #[.val (.ref (oo 0)), .val (.int (0 : Int32))] [(.int (1 : Int32)), (.ref (oo 4))])) _
    exact k
  obtain ⟨cl102, Ar102, q102, S102, M102, H102, G102⟩ := id SA_4
  have hin102 : ¬ ((1 : Int32) < 0 ∨ cl102.slots.size ≤ ((1 : Int32)).toNatClampNeg) := inb_of S102 ⟨by decide, by decide⟩
  have hat102 : cl102.slots[((1 : Int32)).toNatClampNeg]? = some (.int s1) := Has.at H102 hin102 rfl
  refine EndsQ.go (fun t k => X101.iaload hx (j := (1 : Int32)) (v := (.int s1)) (by rw [e101]; exact Ar102.1) (State.isArrayOf_alike hZ.alike Ar102.2.1) Ar102.2.2 hin102 hat102 (g := (mkF m 7 #[.val (.ref (oo 0)), .val (.int (0 : Int32))] [(.int (1 : Int32)), (.ref (oo 4))])) rfl rfl (hb hby d7_7) _ k) ?_
  show EndsQ _ _ _ _ _ _ _ (T101.setTop (mkF m 8 #[.val (.ref (oo 0)), .val (.int (0 : Int32))] [(.int s1)]))
  refine EndsQ.go (b := T101.setTop (mkF m 9 #[.val (.ref (oo 0)), .val (.int (0 : Int32))] [(.ref (oo 0)), (.int s1)])) (fun t k => ?_) ?_
  · show Steps p.tables e below (T101.setTop (mkF m 8 #[.val (.ref (oo 0)), .val (.int (0 : Int32))] [(.int s1)])) _
    refine XS.aloadN X101.here hx rfl (hb hby d7_8) rfl rfl ?_
    exact k
  obtain ⟨T103, X103, e103, st103⟩ := getF X101 hx hZ hown (host := "") (Or.inl (hw _ (List.mem_of_getElem? (i := 17) rfl))) Via.refl e101 SF_starts (g := (mkF m 9 #[.val (.ref (oo 0)), .val (.int (0 : Int32))] [(.ref (oo 0)), (.int s1)])) rfl rfl (hb hby d7_9)
  refine EndsQ.go st103 ?_
  show EndsQ _ _ _ _ _ _ _ (T103.setTop (mkF m 12 #[.val (.ref (oo 0)), .val (.int (0 : Int32))] [(.ref (oo 4)), (.int s1)]))
  refine EndsQ.go (b := T103.setTop (mkF m 13 #[.val (.ref (oo 0)), .val (.int (0 : Int32))] [(.int (0 : Int32)), (.ref (oo 4)), (.int s1)])) (fun t k => ?_) ?_
  · show Steps p.tables e below (T103.setTop (mkF m 12 #[.val (.ref (oo 0)), .val (.int (0 : Int32))] [(.ref (oo 4)), (.int s1)])) _
    refine XS.iloadN X103.here hx rfl (hb hby d7_12) rfl ?_
    exact k
  obtain ⟨cl104, Ar104, q104, S104, M104, H104, G104⟩ := id SA_4
  have hin104 : ¬ ((0 : Int32) < 0 ∨ cl104.slots.size ≤ ((0 : Int32)).toNatClampNeg) := inb_of S104 ⟨by decide, by decide⟩
  have hat104 : cl104.slots[((0 : Int32)).toNatClampNeg]? = some (.int s0) := Has.at H104 hin104 rfl
  refine EndsQ.go (fun t k => X103.iaload hx (j := (0 : Int32)) (v := (.int s0)) (by rw [e103]; exact Ar104.1) (State.isArrayOf_alike hZ.alike Ar104.2.1) Ar104.2.2 hin104 hat104 (g := (mkF m 13 #[.val (.ref (oo 0)), .val (.int (0 : Int32))] [(.int (0 : Int32)), (.ref (oo 4)), (.int s1)])) rfl rfl (hb hby d7_13) _ k) ?_
  show EndsQ _ _ _ _ _ _ _ (T103.setTop (mkF m 14 #[.val (.ref (oo 0)), .val (.int (0 : Int32))] [(.int s0), (.int s1)]))
  refine EndsQ.go (b := T103.setTop (mkF m 15 #[.val (.ref (oo 0)), .val (.int (0 : Int32))] [(.int (s1 - s0))])) (fun t k => ?_) ?_
  · show Steps p.tables e below (T103.setTop (mkF m 14 #[.val (.ref (oo 0)), .val (.int (0 : Int32))] [(.int s0), (.int s1)])) _
    refine XS.isub X103.here hx rfl (hb hby d7_14) rfl ?_
    exact k
  refine EndsQ.retI X103 hx Bd.notSynchronized Bd.returns (hb hby d7_15) (by decide) (by decide) ?_
  show QCo0 Z oo kk c0 c1 c2 r0 r1 r2 d0 d1 d2 s0 s1 s2 g0 g1 g2 t0 t1 t2 vx cnt sz h0 n0 (some (.int (s1 - s0))) T103.heap _
  rw [e103]
  exact ⟨rfl, N0, rfl⟩
theorem ef_Co1 (m : MethodId) (x0 : Addr) (x1 : Int32) : entryFrame m #[(.ref x0), (.int x1)] 2 = mkF m 0 #[.val (.ref x0), .val (.int x1)] [] := by first | (simp [entryFrame, mkF, argsToLocals, Value.category]; done) | rfl
def QCo1 (Z : State) (oo : Nat → Addr) (kk : Nat → ClassId) (c0 : Int32) (c1 : Int32) (c2 : Int32) (r0 : Int32) (r1 : Int32) (r2 : Int32) (d0 : UInt64) (d1 : UInt64) (d2 : UInt64) (s0 : Int32) (s1 : Int32) (s2 : Int32) (g0 : UInt64) (g1 : UInt64) (g2 : UInt64) (t0 : Int32) (t1 : Int32) (t2 : Int32) (vx : List Value) (cnt : Int32) (sz : Int32) (h0 : Heap) (n0 : Nat) (v : Option Value) (h : Heap) (L : List Loc) : Prop := v = some (.int (s2 - s1)) ∧ Fr n0 L ∧ h = h0
set_option maxRecDepth 65536 in
set_option maxHeartbeats 40000000 in
theorem rmCo1 (l : Launch) (Z : State) (a0 : Array Value) (hw : ∀ d ∈ tables_1, d.before a0 Z = true) (ws : List Jvm.Cond) (oo : Nat → Addr) (kk : Nat → ClassId) (c0 : Int32) (c1 : Int32) (c2 : Int32) (r0 : Int32) (r1 : Int32) (r2 : Int32) (d0 : UInt64) (d1 : UInt64) (d2 : UInt64) (s0 : Int32) (s1 : Int32) (s2 : Int32) (g0 : UInt64) (g1 : UInt64) (g2 : UInt64) (t0 : Int32) (t1 : Int32) (t2 : Int32) (vx : List Value) (cnt : Int32) (sz : Int32) (h0 : Heap) (n0 : Nat) (Z0 : n0 ≤ h0.size) (hne : own_ne oo) (hn : own_nn n0 oo) (HS : own_St Z h0 oo kk cnt sz [(.int c0), (.int c1), (.int c2)] [(.int r0), (.int r1), (.int r2)] [(.double d0), (.double d1), (.double d2)] [(.int s0), (.int s1), (.int s2)] [(.double g0), (.double g1), (.double g2)] [(.int t0), (.int t1), (.int t2)] vx) :
    MetFree l (⟨"com/example/physarum/physarum/Proposals", "count", "(I)I"⟩ : MethodName) (head1 (Jvm.Cond.code (⟨"com/example/physarum/physarum/Proposals", "count", "(I)I"⟩ : MethodName) prog_44_method_7_code 2 (some .int) :: ws) ({ frames := 0, cells := 0, slots := 0, locals := 0 } : Room)) (fun a U => a = #[(.ref (oo 0)), (.int (1 : Int32))] ∧ Z.Warmed39 U.vm ∧ U.heap = h0) (fun _ _ _ _ _ => True) (fun _ U o U' => ∃ v L, o = .returned v ∧ QCo1 Z oo kk c0 c1 c2 r0 r1 r2 d0 d1 d2 s0 s1 s2 g0 g1 g2 t0 t1 t2 vx cnt sz h0 n0 v U'.heap L ∧ FrameEnd U o U' L ({ frames := 0, cells := 0, slots := 0, locals := 0 } : Room).cells ({ frames := 0, cells := 0, slots := 0, locals := 0 } : Room).slots) := by
  refine MetFree.of_bodySF (plainFor_of_name pn_7) hisR ?_
  intro p e s m args below meth c s₁ Bd hml0 hP hK
  obtain ⟨rfl, hZ, hh⟩ := hP
  have hx := Bd.exec
  have hby := Bd.bytes
  have hml : c.maxLocals = 2 := hml0
  have hown : s.vm.findClass "com/example/physarum/physarum/Proposals" = some m.cls := findClass_of_methodNamed Bd.named
  have hnm := (name_of_methodNamed Bd.named Bd.method).1
  have X0 : Stand p l e ({ frames := 0, cells := 0, slots := 0, locals := 0 } : Room) s m #[(.ref (oo 0)), (.int (1 : Int32))] below meth c s₁ [] 0 0 := Stand.of_body Bd
  have e0 : s₁.heap = h0 := by rw [← hh, Bd.state]; rfl
  have N0 := Fr.nil n0
  show EndsQ p.tables e below s (fun v h L => QCo1 Z oo kk c0 c1 c2 r0 r1 r2 d0 d1 d2 s0 s1 s2 g0 g1 g2 t0 t1 t2 vx cnt sz h0 n0 v h L) ({ frames := 0, cells := 0, slots := 0, locals := 0 } : Room).cells ({ frames := 0, cells := 0, slots := 0, locals := 0 } : Room).slots _
  refine EndsQ.go (b := s₁.setTop (mkF m 0 #[.val (.ref (oo 0)), .val (.int (1 : Int32))] [])) (fun t k => castTop (ef_Co1 m (oo 0) (1 : Int32)) k) ?_
  have HS0 := HS
  obtain ⟨SE, SF_candidates, SF_proposed, SF_confidences, SF_starts, SF_arranged, SF_taken, SF_indices, SF_cnt, SF_sz, SA_1, SA_2, SA_3, SA_4, SA_5, SA_6, SA_7⟩ := HS
  refine EndsQ.go (b := s₁.setTop (mkF m 1 #[.val (.ref (oo 0)), .val (.int (1 : Int32))] [(.ref (oo 0))])) (fun t k => ?_) ?_
  · show Steps p.tables e below (s₁.setTop (mkF m 0 #[.val (.ref (oo 0)), .val (.int (1 : Int32))] [])) _
    refine XS.aloadN X0.here hx rfl (hb hby d7_0) rfl rfl ?_
    exact k
  obtain ⟨T101, X101, e101, st101⟩ := getF X0 hx hZ hown (host := "") (Or.inl (hw _ (List.mem_of_getElem? (i := 17) rfl))) Via.refl e0 SF_starts (g := (mkF m 1 #[.val (.ref (oo 0)), .val (.int (1 : Int32))] [(.ref (oo 0))])) rfl rfl (hb hby d7_1)
  refine EndsQ.go st101 ?_
  show EndsQ _ _ _ _ _ _ _ (T101.setTop (mkF m 4 #[.val (.ref (oo 0)), .val (.int (1 : Int32))] [(.ref (oo 4))]))
  refine EndsQ.go (b := T101.setTop (mkF m 7 #[.val (.ref (oo 0)), .val (.int (1 : Int32))] [(.int (2 : Int32)), (.ref (oo 4))])) (fun t k => ?_) ?_
  · show Steps p.tables e below (T101.setTop (mkF m 4 #[.val (.ref (oo 0)), .val (.int (1 : Int32))] [(.ref (oo 4))])) _
    refine XS.iloadN X101.here hx rfl (hb hby d7_4) rfl ?_
    refine XS.iconst X101.here hx rfl (hb hby d7_5) ?_
    refine XS.iadd X101.here hx rfl (hb hby d7_6) rfl ?_
    show Steps p.tables e below (T101.setTop (mkF m 7 #[.val (.ref (oo 0)), .val (.int (1 : Int32))] [(.int ((1 : Int32) + (1 : Int32))), (.ref (oo 4))])) _
    rw [(by decide : ((1 : Int32) + (1 : Int32)) = (2 : Int32))]
    show Steps p.tables e below (T101.setTop (mkF m 7 #[.val (.ref (oo 0)), .val (.int (1 : Int32))] [(.int (2 : Int32)), (.ref (oo 4))])) _
    exact k
  obtain ⟨cl102, Ar102, q102, S102, M102, H102, G102⟩ := id SA_4
  have hin102 : ¬ ((2 : Int32) < 0 ∨ cl102.slots.size ≤ ((2 : Int32)).toNatClampNeg) := inb_of S102 ⟨by decide, by decide⟩
  have hat102 : cl102.slots[((2 : Int32)).toNatClampNeg]? = some (.int s2) := Has.at H102 hin102 rfl
  refine EndsQ.go (fun t k => X101.iaload hx (j := (2 : Int32)) (v := (.int s2)) (by rw [e101]; exact Ar102.1) (State.isArrayOf_alike hZ.alike Ar102.2.1) Ar102.2.2 hin102 hat102 (g := (mkF m 7 #[.val (.ref (oo 0)), .val (.int (1 : Int32))] [(.int (2 : Int32)), (.ref (oo 4))])) rfl rfl (hb hby d7_7) _ k) ?_
  show EndsQ _ _ _ _ _ _ _ (T101.setTop (mkF m 8 #[.val (.ref (oo 0)), .val (.int (1 : Int32))] [(.int s2)]))
  refine EndsQ.go (b := T101.setTop (mkF m 9 #[.val (.ref (oo 0)), .val (.int (1 : Int32))] [(.ref (oo 0)), (.int s2)])) (fun t k => ?_) ?_
  · show Steps p.tables e below (T101.setTop (mkF m 8 #[.val (.ref (oo 0)), .val (.int (1 : Int32))] [(.int s2)])) _
    refine XS.aloadN X101.here hx rfl (hb hby d7_8) rfl rfl ?_
    exact k
  obtain ⟨T103, X103, e103, st103⟩ := getF X101 hx hZ hown (host := "") (Or.inl (hw _ (List.mem_of_getElem? (i := 17) rfl))) Via.refl e101 SF_starts (g := (mkF m 9 #[.val (.ref (oo 0)), .val (.int (1 : Int32))] [(.ref (oo 0)), (.int s2)])) rfl rfl (hb hby d7_9)
  refine EndsQ.go st103 ?_
  show EndsQ _ _ _ _ _ _ _ (T103.setTop (mkF m 12 #[.val (.ref (oo 0)), .val (.int (1 : Int32))] [(.ref (oo 4)), (.int s2)]))
  refine EndsQ.go (b := T103.setTop (mkF m 13 #[.val (.ref (oo 0)), .val (.int (1 : Int32))] [(.int (1 : Int32)), (.ref (oo 4)), (.int s2)])) (fun t k => ?_) ?_
  · show Steps p.tables e below (T103.setTop (mkF m 12 #[.val (.ref (oo 0)), .val (.int (1 : Int32))] [(.ref (oo 4)), (.int s2)])) _
    refine XS.iloadN X103.here hx rfl (hb hby d7_12) rfl ?_
    exact k
  obtain ⟨cl104, Ar104, q104, S104, M104, H104, G104⟩ := id SA_4
  have hin104 : ¬ ((1 : Int32) < 0 ∨ cl104.slots.size ≤ ((1 : Int32)).toNatClampNeg) := inb_of S104 ⟨by decide, by decide⟩
  have hat104 : cl104.slots[((1 : Int32)).toNatClampNeg]? = some (.int s1) := Has.at H104 hin104 rfl
  refine EndsQ.go (fun t k => X103.iaload hx (j := (1 : Int32)) (v := (.int s1)) (by rw [e103]; exact Ar104.1) (State.isArrayOf_alike hZ.alike Ar104.2.1) Ar104.2.2 hin104 hat104 (g := (mkF m 13 #[.val (.ref (oo 0)), .val (.int (1 : Int32))] [(.int (1 : Int32)), (.ref (oo 4)), (.int s2)])) rfl rfl (hb hby d7_13) _ k) ?_
  show EndsQ _ _ _ _ _ _ _ (T103.setTop (mkF m 14 #[.val (.ref (oo 0)), .val (.int (1 : Int32))] [(.int s1), (.int s2)]))
  refine EndsQ.go (b := T103.setTop (mkF m 15 #[.val (.ref (oo 0)), .val (.int (1 : Int32))] [(.int (s2 - s1))])) (fun t k => ?_) ?_
  · show Steps p.tables e below (T103.setTop (mkF m 14 #[.val (.ref (oo 0)), .val (.int (1 : Int32))] [(.int s1), (.int s2)])) _
    refine XS.isub X103.here hx rfl (hb hby d7_14) rfl ?_
    exact k
  refine EndsQ.retI X103 hx Bd.notSynchronized Bd.returns (hb hby d7_15) (by decide) (by decide) ?_
  show QCo1 Z oo kk c0 c1 c2 r0 r1 r2 d0 d1 d2 s0 s1 s2 g0 g1 g2 t0 t1 t2 vx cnt sz h0 n0 (some (.int (s2 - s1))) T103.heap _
  rw [e103]
  exact ⟨rfl, N0, rfl⟩
theorem ef_Sift0 (m : MethodId) (x0 : Addr) (x1 : Int32) (x2 : Int32) (x3 : Int32) : entryFrame m #[(.ref x0), (.int x1), (.int x2), (.int x3)] 8 = mkF m 0 #[.val (.ref x0), .val (.int x1), .val (.int x2), .val (.int x3), .unset, .unset, .unset, .unset] [] := by first | (simp [entryFrame, mkF, argsToLocals, Value.category]; done) | rfl
def QSift0 (Z : State) (oo : Nat → Addr) (kk : Nat → ClassId) (c0 : Int32) (c1 : Int32) (c2 : Int32) (r0 : Int32) (r1 : Int32) (r2 : Int32) (d0 : UInt64) (d1 : UInt64) (d2 : UInt64) (s0 : Int32) (s1 : Int32) (s2 : Int32) (g0 : UInt64) (g1 : UInt64) (g2 : UInt64) (t0 : Int32) (t1 : Int32) (t2 : Int32) (vx : List Value) (cnt : Int32) (sz : Int32) (h0 : Heap) (n0 : Nat) (v : Option Value) (h : Heap) (L : List Loc) : Prop := v = none ∧ Fr n0 L ∧ n0 ≤ h.size ∧ own_St Z h oo kk cnt sz [(.int c0), (.int c1), (.int c2)] [(.int r0), (.int r1), (.int r2)] [(.double d0), (.double d1), (.double d2)] [(.int s0), (.int s1), (.int s2)] [(.double g0), (.double g1), (.double g2)] [(.int t0), (.int t1), (.int t2)] vx
set_option maxRecDepth 65536 in
set_option maxHeartbeats 40000000 in
theorem rmSift0 (l : Launch) (Z : State) (a0 : Array Value) (hw : ∀ d ∈ tables_1, d.before a0 Z = true) (ws : List Jvm.Cond) (oo : Nat → Addr) (kk : Nat → ClassId) (c0 : Int32) (c1 : Int32) (c2 : Int32) (r0 : Int32) (r1 : Int32) (r2 : Int32) (d0 : UInt64) (d1 : UInt64) (d2 : UInt64) (s0 : Int32) (s1 : Int32) (s2 : Int32) (g0 : UInt64) (g1 : UInt64) (g2 : UInt64) (t0 : Int32) (t1 : Int32) (t2 : Int32) (vx : List Value) (cnt : Int32) (sz : Int32) (h0 : Heap) (n0 : Nat) (Z0 : n0 ≤ h0.size) (hne : own_ne oo) (hn : own_nn n0 oo) (HS : own_St Z h0 oo kk cnt sz [(.int c0), (.int c1), (.int c2)] [(.int r0), (.int r1), (.int r2)] [(.double d0), (.double d1), (.double d2)] [(.int s0), (.int s1), (.int s2)] [(.double g0), (.double g1), (.double g2)] [(.int t0), (.int t1), (.int t2)] vx) :
    MetFree l (⟨"com/example/physarum/physarum/Proposals", "siftDown", "(III)V"⟩ : MethodName) (head1 (Jvm.Cond.code (⟨"com/example/physarum/physarum/Proposals", "siftDown", "(III)V"⟩ : MethodName) prog_44_method_11_code 8 none :: ws) ({ frames := 0, cells := 0, slots := 0, locals := 0 } : Room)) (fun a U => a = #[(.ref (oo 0)), (.int (0 : Int32)), (.int (0 : Int32)), (.int (0 : Int32))] ∧ Z.Warmed39 U.vm ∧ U.heap = h0) (fun _ _ _ _ _ => True) (fun _ U o U' => ∃ v L, o = .returned v ∧ QSift0 Z oo kk c0 c1 c2 r0 r1 r2 d0 d1 d2 s0 s1 s2 g0 g1 g2 t0 t1 t2 vx cnt sz h0 n0 v U'.heap L ∧ FrameEnd U o U' L ({ frames := 0, cells := 0, slots := 0, locals := 0 } : Room).cells ({ frames := 0, cells := 0, slots := 0, locals := 0 } : Room).slots) := by
  refine MetFree.of_bodySF (plainFor_of_name pn_12) hisR ?_
  intro p e s m args below meth c s₁ Bd hml0 hP hK
  obtain ⟨rfl, hZ, hh⟩ := hP
  have hx := Bd.exec
  have hby := Bd.bytes
  have hml : c.maxLocals = 8 := hml0
  have hown : s.vm.findClass "com/example/physarum/physarum/Proposals" = some m.cls := findClass_of_methodNamed Bd.named
  have hnm := (name_of_methodNamed Bd.named Bd.method).1
  have X0 : Stand p l e ({ frames := 0, cells := 0, slots := 0, locals := 0 } : Room) s m #[(.ref (oo 0)), (.int (0 : Int32)), (.int (0 : Int32)), (.int (0 : Int32))] below meth c s₁ [] 0 0 := Stand.of_body Bd
  have e0 : s₁.heap = h0 := by rw [← hh, Bd.state]; rfl
  have N0 := Fr.nil n0
  show EndsQ p.tables e below s (fun v h L => QSift0 Z oo kk c0 c1 c2 r0 r1 r2 d0 d1 d2 s0 s1 s2 g0 g1 g2 t0 t1 t2 vx cnt sz h0 n0 v h L) ({ frames := 0, cells := 0, slots := 0, locals := 0 } : Room).cells ({ frames := 0, cells := 0, slots := 0, locals := 0 } : Room).slots _
  refine EndsQ.go (b := s₁.setTop (mkF m 0 #[.val (.ref (oo 0)), .val (.int (0 : Int32)), .val (.int (0 : Int32)), .val (.int (0 : Int32)), .unset, .unset, .unset, .unset] [])) (fun t k => castTop (ef_Sift0 m (oo 0) (0 : Int32) (0 : Int32) (0 : Int32)) k) ?_
  have HS0 := HS
  obtain ⟨SE, SF_candidates, SF_proposed, SF_confidences, SF_starts, SF_arranged, SF_taken, SF_indices, SF_cnt, SF_sz, SA_1, SA_2, SA_3, SA_4, SA_5, SA_6, SA_7⟩ := HS
  refine EndsQ.go (b := s₁.setTop (mkF m 1 #[.val (.ref (oo 0)), .val (.int (0 : Int32)), .val (.int (0 : Int32)), .val (.int (0 : Int32)), .unset, .unset, .unset, .unset] [(.ref (oo 0))])) (fun t k => ?_) ?_
  · show Steps p.tables e below (s₁.setTop (mkF m 0 #[.val (.ref (oo 0)), .val (.int (0 : Int32)), .val (.int (0 : Int32)), .val (.int (0 : Int32)), .unset, .unset, .unset, .unset] [])) _
    refine XS.aloadN X0.here hx rfl (hb hby d12_0) rfl rfl ?_
    exact k
  obtain ⟨T101, X101, e101, st101⟩ := getF X0 hx hZ hown (host := "") (Or.inl (hw _ (List.mem_of_getElem? (i := 19) rfl))) Via.refl e0 SF_arranged (g := (mkF m 1 #[.val (.ref (oo 0)), .val (.int (0 : Int32)), .val (.int (0 : Int32)), .val (.int (0 : Int32)), .unset, .unset, .unset, .unset] [(.ref (oo 0))])) rfl rfl (hb hby d12_1)
  refine EndsQ.go st101 ?_
  show EndsQ _ _ _ _ _ _ _ (T101.setTop (mkF m 4 #[.val (.ref (oo 0)), .val (.int (0 : Int32)), .val (.int (0 : Int32)), .val (.int (0 : Int32)), .unset, .unset, .unset, .unset] [(.ref (oo 5))]))
  refine EndsQ.go (b := T101.setTop (mkF m 7 #[.val (.ref (oo 0)), .val (.int (0 : Int32)), .val (.int (0 : Int32)), .val (.int (0 : Int32)), .unset, .unset, .unset, .unset] [(.int (0 : Int32)), (.ref (oo 5))])) (fun t k => ?_) ?_
  · show Steps p.tables e below (T101.setTop (mkF m 4 #[.val (.ref (oo 0)), .val (.int (0 : Int32)), .val (.int (0 : Int32)), .val (.int (0 : Int32)), .unset, .unset, .unset, .unset] [(.ref (oo 5))])) _
    refine XS.iloadN X101.here hx rfl (hb hby d12_4) rfl ?_
    refine XS.iloadN X101.here hx rfl (hb hby d12_5) rfl ?_
    refine XS.iadd X101.here hx rfl (hb hby d12_6) rfl ?_
    show Steps p.tables e below (T101.setTop (mkF m 7 #[.val (.ref (oo 0)), .val (.int (0 : Int32)), .val (.int (0 : Int32)), .val (.int (0 : Int32)), .unset, .unset, .unset, .unset] [(.int ((0 : Int32) + (0 : Int32))), (.ref (oo 5))])) _
    rw [(by decide : ((0 : Int32) + (0 : Int32)) = (0 : Int32))]
    show Steps p.tables e below (T101.setTop (mkF m 7 #[.val (.ref (oo 0)), .val (.int (0 : Int32)), .val (.int (0 : Int32)), .val (.int (0 : Int32)), .unset, .unset, .unset, .unset] [(.int (0 : Int32)), (.ref (oo 5))])) _
    exact k
  obtain ⟨cl102, Ar102, q102, S102, M102, H102, G102⟩ := id SA_5
  have hin102 : ¬ ((0 : Int32) < 0 ∨ cl102.slots.size ≤ ((0 : Int32)).toNatClampNeg) := inb_of S102 ⟨by decide, by decide⟩
  have hat102 : cl102.slots[((0 : Int32)).toNatClampNeg]? = some (.double g0) := Has.at H102 hin102 rfl
  refine EndsQ.go (fun t k => X101.daload hx (j := (0 : Int32)) (v := (.double g0)) (by rw [e101]; exact Ar102.1) (State.isArrayOf_alike hZ.alike Ar102.2.1) Ar102.2.2 hin102 hat102 (g := (mkF m 7 #[.val (.ref (oo 0)), .val (.int (0 : Int32)), .val (.int (0 : Int32)), .val (.int (0 : Int32)), .unset, .unset, .unset, .unset] [(.int (0 : Int32)), (.ref (oo 5))])) rfl rfl (hb hby d12_7) _ k) ?_
  show EndsQ _ _ _ _ _ _ _ (T101.setTop (mkF m 8 #[.val (.ref (oo 0)), .val (.int (0 : Int32)), .val (.int (0 : Int32)), .val (.int (0 : Int32)), .unset, .unset, .unset, .unset] [(.double g0)]))
  refine EndsQ.go (b := T101.setTop (mkF m 114 #[.val (.ref (oo 0)), .val (.int (0 : Int32)), .val (.int (0 : Int32)), .val (.int (0 : Int32)), .val (.double g0), .second, .val (.int (0 : Int32)), .val (.int (1 : Int32))] [(.ref (oo 0))])) (fun t k => ?_) ?_
  · show Steps p.tables e below (T101.setTop (mkF m 8 #[.val (.ref (oo 0)), .val (.int (0 : Int32)), .val (.int (0 : Int32)), .val (.int (0 : Int32)), .unset, .unset, .unset, .unset] [(.double g0)])) _
    refine XS.dstore X101.here hx rfl (hb hby d12_8) rfl (l' := #[.val (.ref (oo 0)), .val (.int (0 : Int32)), .val (.int (0 : Int32)), .val (.int (0 : Int32)), .val (.double g0), .second, .unset, .unset]) rfl ?_
    refine XS.iloadN X101.here hx rfl (hb hby d12_10) rfl ?_
    refine XS.istore X101.here hx rfl (hb hby d12_11) rfl (l' := #[.val (.ref (oo 0)), .val (.int (0 : Int32)), .val (.int (0 : Int32)), .val (.int (0 : Int32)), .val (.double g0), .second, .val (.int (0 : Int32)), .unset]) rfl ?_
    refine XS.iconst X101.here hx rfl (hb hby d12_13) ?_
    show Steps p.tables e below (T101.setTop (mkF m 14 #[.val (.ref (oo 0)), .val (.int (0 : Int32)), .val (.int (0 : Int32)), .val (.int (0 : Int32)), .val (.double g0), .second, .val (.int (0 : Int32)), .unset] [(.int (2 : Int32))])) _
    refine XS.iload X101.here hx rfl (hb hby d12_14) rfl ?_
    refine XS.imul X101.here hx rfl (hb hby d12_16) rfl ?_
    show Steps p.tables e below (T101.setTop (mkF m 17 #[.val (.ref (oo 0)), .val (.int (0 : Int32)), .val (.int (0 : Int32)), .val (.int (0 : Int32)), .val (.double g0), .second, .val (.int (0 : Int32)), .unset] [(.int ((2 : Int32) * (0 : Int32)))])) _
    rw [(by decide : ((2 : Int32) * (0 : Int32)) = (0 : Int32))]
    show Steps p.tables e below (T101.setTop (mkF m 17 #[.val (.ref (oo 0)), .val (.int (0 : Int32)), .val (.int (0 : Int32)), .val (.int (0 : Int32)), .val (.double g0), .second, .val (.int (0 : Int32)), .unset] [(.int (0 : Int32))])) _
    refine XS.iconst X101.here hx rfl (hb hby d12_17) ?_
    refine XS.iadd X101.here hx rfl (hb hby d12_18) rfl ?_
    show Steps p.tables e below (T101.setTop (mkF m 19 #[.val (.ref (oo 0)), .val (.int (0 : Int32)), .val (.int (0 : Int32)), .val (.int (0 : Int32)), .val (.double g0), .second, .val (.int (0 : Int32)), .unset] [(.int ((0 : Int32) + (1 : Int32)))])) _
    rw [(by decide : ((0 : Int32) + (1 : Int32)) = (1 : Int32))]
    show Steps p.tables e below (T101.setTop (mkF m 19 #[.val (.ref (oo 0)), .val (.int (0 : Int32)), .val (.int (0 : Int32)), .val (.int (0 : Int32)), .val (.double g0), .second, .val (.int (0 : Int32)), .unset] [(.int (1 : Int32))])) _
    refine XS.istore X101.here hx rfl (hb hby d12_19) rfl (l' := #[.val (.ref (oo 0)), .val (.int (0 : Int32)), .val (.int (0 : Int32)), .val (.int (0 : Int32)), .val (.double g0), .second, .val (.int (0 : Int32)), .val (.int (1 : Int32))]) rfl ?_
    refine XS.iload X101.here hx rfl (hb hby d12_21) rfl ?_
    refine XS.iloadN X101.here hx rfl (hb hby d12_23) rfl ?_
    refine XS.icmpYes X101.here hx rfl (pc0 := 24) (pc' := 113) rfl (hb hby d12_24) rfl (flt (by decide)).2.1 (by decide) (by decide) ?_
    show Steps p.tables e below (T101.setTop (mkF m 113 #[.val (.ref (oo 0)), .val (.int (0 : Int32)), .val (.int (0 : Int32)), .val (.int (0 : Int32)), .val (.double g0), .second, .val (.int (0 : Int32)), .val (.int (1 : Int32))] [])) _
    refine XS.aloadN X101.here hx rfl (hb hby d12_113) rfl rfl ?_
    show Steps p.tables e below (T101.setTop (mkF m 114 #[.val (.ref (oo 0)), .val (.int (0 : Int32)), .val (.int (0 : Int32)), .val (.int (0 : Int32)), .val (.double g0), .second, .val (.int (0 : Int32)), .val (.int (1 : Int32))] [(.ref (oo 0))])) _
    exact k
  obtain ⟨T103, X103, e103, st103⟩ := getF X101 hx hZ hown (host := "") (Or.inl (hw _ (List.mem_of_getElem? (i := 19) rfl))) Via.refl e101 SF_arranged (g := (mkF m 114 #[.val (.ref (oo 0)), .val (.int (0 : Int32)), .val (.int (0 : Int32)), .val (.int (0 : Int32)), .val (.double g0), .second, .val (.int (0 : Int32)), .val (.int (1 : Int32))] [(.ref (oo 0))])) rfl rfl (hb hby d12_114)
  refine EndsQ.go st103 ?_
  show EndsQ _ _ _ _ _ _ _ (T103.setTop (mkF m 117 #[.val (.ref (oo 0)), .val (.int (0 : Int32)), .val (.int (0 : Int32)), .val (.int (0 : Int32)), .val (.double g0), .second, .val (.int (0 : Int32)), .val (.int (1 : Int32))] [(.ref (oo 5))]))
  refine EndsQ.go (b := T103.setTop (mkF m 123 #[.val (.ref (oo 0)), .val (.int (0 : Int32)), .val (.int (0 : Int32)), .val (.int (0 : Int32)), .val (.double g0), .second, .val (.int (0 : Int32)), .val (.int (1 : Int32))] [(.double g0), (.int (0 : Int32)), (.ref (oo 5))])) (fun t k => ?_) ?_
  · show Steps p.tables e below (T103.setTop (mkF m 117 #[.val (.ref (oo 0)), .val (.int (0 : Int32)), .val (.int (0 : Int32)), .val (.int (0 : Int32)), .val (.double g0), .second, .val (.int (0 : Int32)), .val (.int (1 : Int32))] [(.ref (oo 5))])) _
    refine XS.iloadN X103.here hx rfl (hb hby d12_117) rfl ?_
    refine XS.iload X103.here hx rfl (hb hby d12_118) rfl ?_
    refine XS.iadd X103.here hx rfl (hb hby d12_120) rfl ?_
    show Steps p.tables e below (T103.setTop (mkF m 121 #[.val (.ref (oo 0)), .val (.int (0 : Int32)), .val (.int (0 : Int32)), .val (.int (0 : Int32)), .val (.double g0), .second, .val (.int (0 : Int32)), .val (.int (1 : Int32))] [(.int ((0 : Int32) + (0 : Int32))), (.ref (oo 5))])) _
    rw [(by decide : ((0 : Int32) + (0 : Int32)) = (0 : Int32))]
    show Steps p.tables e below (T103.setTop (mkF m 121 #[.val (.ref (oo 0)), .val (.int (0 : Int32)), .val (.int (0 : Int32)), .val (.int (0 : Int32)), .val (.double g0), .second, .val (.int (0 : Int32)), .val (.int (1 : Int32))] [(.int (0 : Int32)), (.ref (oo 5))])) _
    refine XS.dload X103.here hx rfl (hb hby d12_121) rfl ?_
    show Steps p.tables e below (T103.setTop (mkF m 123 #[.val (.ref (oo 0)), .val (.int (0 : Int32)), .val (.int (0 : Int32)), .val (.int (0 : Int32)), .val (.double g0), .second, .val (.int (0 : Int32)), .val (.int (1 : Int32))] [(.double g0), (.int (0 : Int32)), (.ref (oo 5))])) _
    exact k
  obtain ⟨cl104, Ar104, q104, S104, M104, H104, G104⟩ := id SA_5
  have hin104 : ¬ ((0 : Int32) < 0 ∨ cl104.slots.size ≤ ((0 : Int32)).toNatClampNeg) := inb_of S104 ⟨by decide, by decide⟩
  obtain ⟨T104, h104, X104, e104, W104, st104⟩ := stD X103 hx hZ e103 Ar104 (j := (0 : Int32)) hin104 (g := (mkF m 123 #[.val (.ref (oo 0)), .val (.int (0 : Int32)), .val (.int (0 : Int32)), .val (.int (0 : Int32)), .val (.double g0), .second, .val (.int (0 : Int32)), .val (.int (1 : Int32))] [(.double g0), (.int (0 : Int32)), (.ref (oo 5))])) rfl rfl (hb hby d12_123)
  have fa104 : Arv Z h104 (oo 5) (kk 5) .double (64 : Int32) [(.double g0), (.double g1), (.double g2)] (.double (0 : UInt64)) := Arv.set Ar104 q104 S104 M104 H104 G104 rfl W104 0 rfl (Nat.le_of_ble_eq_true rfl)
  have f105 := SE.wr W104
  have f106 := SF_candidates.other W104 (Or.inl (hne 0 5 (by decide) (by decide) (by decide)))
  have f107 := SF_proposed.other W104 (Or.inl (hne 0 5 (by decide) (by decide) (by decide)))
  have f108 := SF_confidences.other W104 (Or.inl (hne 0 5 (by decide) (by decide) (by decide)))
  have f109 := SF_starts.other W104 (Or.inl (hne 0 5 (by decide) (by decide) (by decide)))
  have f110 := SF_arranged.other W104 (Or.inl (hne 0 5 (by decide) (by decide) (by decide)))
  have f111 := SF_taken.other W104 (Or.inl (hne 0 5 (by decide) (by decide) (by decide)))
  have f112 := SF_indices.other W104 (Or.inl (hne 0 5 (by decide) (by decide) (by decide)))
  have f113 := SF_cnt.other W104 (Or.inl (hne 0 5 (by decide) (by decide) (by decide)))
  have f114 := SF_sz.other W104 (Or.inl (hne 0 5 (by decide) (by decide) (by decide)))
  have f115 := SA_1.other W104 (hne 1 5 (by decide) (by decide) (by decide))
  have f116 := SA_2.other W104 (hne 2 5 (by decide) (by decide) (by decide))
  have f117 := SA_3.other W104 (hne 3 5 (by decide) (by decide) (by decide))
  have f118 := SA_4.other W104 (hne 4 5 (by decide) (by decide) (by decide))
  have f119 := SA_6.other W104 (hne 6 5 (by decide) (by decide) (by decide))
  have f120 := SA_7.other W104 (hne 7 5 (by decide) (by decide) (by decide))
  have f121 := Nat.le_trans Z0 (Keep.of_wr W104).1
  have N104 := Fr.snoc X104 N0 (hn 5 (by decide))
  refine EndsQ.go st104 ?_
  show EndsQ _ _ _ _ _ _ _ (T104.setTop (mkF m 124 #[.val (.ref (oo 0)), .val (.int (0 : Int32)), .val (.int (0 : Int32)), .val (.int (0 : Int32)), .val (.double g0), .second, .val (.int (0 : Int32)), .val (.int (1 : Int32))] []))
  refine EndsQ.retV X104 hx Bd.notSynchronized Bd.returns (hb hby d12_124) (by decide) (by decide) ?_
  show QSift0 Z oo kk c0 c1 c2 r0 r1 r2 d0 d1 d2 s0 s1 s2 g0 g1 g2 t0 t1 t2 vx cnt sz h0 n0 (none) T104.heap _
  rw [e104]
  exact ⟨rfl, N104, f121, ⟨f105, f106, f107, f108, f109, f110, f111, f112, f113, f114, f115, f116, f117, f118, fa104, f119, f120⟩⟩
theorem ef_Sift1 (m : MethodId) (x0 : Addr) (x1 : Int32) (x2 : Int32) (x3 : Int32) : entryFrame m #[(.ref x0), (.int x1), (.int x2), (.int x3)] 8 = mkF m 0 #[.val (.ref x0), .val (.int x1), .val (.int x2), .val (.int x3), .unset, .unset, .unset, .unset] [] := by first | (simp [entryFrame, mkF, argsToLocals, Value.category]; done) | rfl
def QSift1 (Z : State) (oo : Nat → Addr) (kk : Nat → ClassId) (c0 : Int32) (c1 : Int32) (c2 : Int32) (r0 : Int32) (r1 : Int32) (r2 : Int32) (d0 : UInt64) (d1 : UInt64) (d2 : UInt64) (s0 : Int32) (s1 : Int32) (s2 : Int32) (g0 : UInt64) (g1 : UInt64) (g2 : UInt64) (t0 : Int32) (t1 : Int32) (t2 : Int32) (vx : List Value) (cnt : Int32) (sz : Int32) (h0 : Heap) (n0 : Nat) (v : Option Value) (h : Heap) (L : List Loc) : Prop := v = none ∧ Fr n0 L ∧ n0 ≤ h.size ∧ own_St Z h oo kk cnt sz [(.int c0), (.int c1), (.int c2)] [(.int r0), (.int r1), (.int r2)] [(.double d0), (.double d1), (.double d2)] [(.int s0), (.int s1), (.int s2)] [(.double g0), (.double g1), (.double g2)] [(.int t0), (.int t1), (.int t2)] vx
set_option maxRecDepth 65536 in
set_option maxHeartbeats 40000000 in
theorem rmSift1 (l : Launch) (Z : State) (a0 : Array Value) (hw : ∀ d ∈ tables_1, d.before a0 Z = true) (ws : List Jvm.Cond) (oo : Nat → Addr) (kk : Nat → ClassId) (c0 : Int32) (c1 : Int32) (c2 : Int32) (r0 : Int32) (r1 : Int32) (r2 : Int32) (d0 : UInt64) (d1 : UInt64) (d2 : UInt64) (s0 : Int32) (s1 : Int32) (s2 : Int32) (g0 : UInt64) (g1 : UInt64) (g2 : UInt64) (t0 : Int32) (t1 : Int32) (t2 : Int32) (vx : List Value) (cnt : Int32) (sz : Int32) (h0 : Heap) (n0 : Nat) (Z0 : n0 ≤ h0.size) (hne : own_ne oo) (hn : own_nn n0 oo) (HS : own_St Z h0 oo kk cnt sz [(.int c0), (.int c1), (.int c2)] [(.int r0), (.int r1), (.int r2)] [(.double d0), (.double d1), (.double d2)] [(.int s0), (.int s1), (.int s2)] [(.double g0), (.double g1), (.double g2)] [(.int t0), (.int t1), (.int t2)] vx) :
    MetFree l (⟨"com/example/physarum/physarum/Proposals", "siftDown", "(III)V"⟩ : MethodName) (head1 (Jvm.Cond.code (⟨"com/example/physarum/physarum/Proposals", "siftDown", "(III)V"⟩ : MethodName) prog_44_method_11_code 8 none :: ws) ({ frames := 0, cells := 0, slots := 0, locals := 0 } : Room)) (fun a U => a = #[(.ref (oo 0)), (.int (0 : Int32)), (.int (0 : Int32)), (.int (1 : Int32))] ∧ Z.Warmed39 U.vm ∧ U.heap = h0) (fun _ _ _ _ _ => True) (fun _ U o U' => ∃ v L, o = .returned v ∧ QSift1 Z oo kk c0 c1 c2 r0 r1 r2 d0 d1 d2 s0 s1 s2 g0 g1 g2 t0 t1 t2 vx cnt sz h0 n0 v U'.heap L ∧ FrameEnd U o U' L ({ frames := 0, cells := 0, slots := 0, locals := 0 } : Room).cells ({ frames := 0, cells := 0, slots := 0, locals := 0 } : Room).slots) := by
  refine MetFree.of_bodySF (plainFor_of_name pn_12) hisR ?_
  intro p e s m args below meth c s₁ Bd hml0 hP hK
  obtain ⟨rfl, hZ, hh⟩ := hP
  have hx := Bd.exec
  have hby := Bd.bytes
  have hml : c.maxLocals = 8 := hml0
  have hown : s.vm.findClass "com/example/physarum/physarum/Proposals" = some m.cls := findClass_of_methodNamed Bd.named
  have hnm := (name_of_methodNamed Bd.named Bd.method).1
  have X0 : Stand p l e ({ frames := 0, cells := 0, slots := 0, locals := 0 } : Room) s m #[(.ref (oo 0)), (.int (0 : Int32)), (.int (0 : Int32)), (.int (1 : Int32))] below meth c s₁ [] 0 0 := Stand.of_body Bd
  have e0 : s₁.heap = h0 := by rw [← hh, Bd.state]; rfl
  have N0 := Fr.nil n0
  show EndsQ p.tables e below s (fun v h L => QSift1 Z oo kk c0 c1 c2 r0 r1 r2 d0 d1 d2 s0 s1 s2 g0 g1 g2 t0 t1 t2 vx cnt sz h0 n0 v h L) ({ frames := 0, cells := 0, slots := 0, locals := 0 } : Room).cells ({ frames := 0, cells := 0, slots := 0, locals := 0 } : Room).slots _
  refine EndsQ.go (b := s₁.setTop (mkF m 0 #[.val (.ref (oo 0)), .val (.int (0 : Int32)), .val (.int (0 : Int32)), .val (.int (1 : Int32)), .unset, .unset, .unset, .unset] [])) (fun t k => castTop (ef_Sift1 m (oo 0) (0 : Int32) (0 : Int32) (1 : Int32)) k) ?_
  have HS0 := HS
  obtain ⟨SE, SF_candidates, SF_proposed, SF_confidences, SF_starts, SF_arranged, SF_taken, SF_indices, SF_cnt, SF_sz, SA_1, SA_2, SA_3, SA_4, SA_5, SA_6, SA_7⟩ := HS
  refine EndsQ.go (b := s₁.setTop (mkF m 1 #[.val (.ref (oo 0)), .val (.int (0 : Int32)), .val (.int (0 : Int32)), .val (.int (1 : Int32)), .unset, .unset, .unset, .unset] [(.ref (oo 0))])) (fun t k => ?_) ?_
  · show Steps p.tables e below (s₁.setTop (mkF m 0 #[.val (.ref (oo 0)), .val (.int (0 : Int32)), .val (.int (0 : Int32)), .val (.int (1 : Int32)), .unset, .unset, .unset, .unset] [])) _
    refine XS.aloadN X0.here hx rfl (hb hby d12_0) rfl rfl ?_
    exact k
  obtain ⟨T101, X101, e101, st101⟩ := getF X0 hx hZ hown (host := "") (Or.inl (hw _ (List.mem_of_getElem? (i := 19) rfl))) Via.refl e0 SF_arranged (g := (mkF m 1 #[.val (.ref (oo 0)), .val (.int (0 : Int32)), .val (.int (0 : Int32)), .val (.int (1 : Int32)), .unset, .unset, .unset, .unset] [(.ref (oo 0))])) rfl rfl (hb hby d12_1)
  refine EndsQ.go st101 ?_
  show EndsQ _ _ _ _ _ _ _ (T101.setTop (mkF m 4 #[.val (.ref (oo 0)), .val (.int (0 : Int32)), .val (.int (0 : Int32)), .val (.int (1 : Int32)), .unset, .unset, .unset, .unset] [(.ref (oo 5))]))
  refine EndsQ.go (b := T101.setTop (mkF m 7 #[.val (.ref (oo 0)), .val (.int (0 : Int32)), .val (.int (0 : Int32)), .val (.int (1 : Int32)), .unset, .unset, .unset, .unset] [(.int (0 : Int32)), (.ref (oo 5))])) (fun t k => ?_) ?_
  · show Steps p.tables e below (T101.setTop (mkF m 4 #[.val (.ref (oo 0)), .val (.int (0 : Int32)), .val (.int (0 : Int32)), .val (.int (1 : Int32)), .unset, .unset, .unset, .unset] [(.ref (oo 5))])) _
    refine XS.iloadN X101.here hx rfl (hb hby d12_4) rfl ?_
    refine XS.iloadN X101.here hx rfl (hb hby d12_5) rfl ?_
    refine XS.iadd X101.here hx rfl (hb hby d12_6) rfl ?_
    show Steps p.tables e below (T101.setTop (mkF m 7 #[.val (.ref (oo 0)), .val (.int (0 : Int32)), .val (.int (0 : Int32)), .val (.int (1 : Int32)), .unset, .unset, .unset, .unset] [(.int ((0 : Int32) + (0 : Int32))), (.ref (oo 5))])) _
    rw [(by decide : ((0 : Int32) + (0 : Int32)) = (0 : Int32))]
    show Steps p.tables e below (T101.setTop (mkF m 7 #[.val (.ref (oo 0)), .val (.int (0 : Int32)), .val (.int (0 : Int32)), .val (.int (1 : Int32)), .unset, .unset, .unset, .unset] [(.int (0 : Int32)), (.ref (oo 5))])) _
    exact k
  obtain ⟨cl102, Ar102, q102, S102, M102, H102, G102⟩ := id SA_5
  have hin102 : ¬ ((0 : Int32) < 0 ∨ cl102.slots.size ≤ ((0 : Int32)).toNatClampNeg) := inb_of S102 ⟨by decide, by decide⟩
  have hat102 : cl102.slots[((0 : Int32)).toNatClampNeg]? = some (.double g0) := Has.at H102 hin102 rfl
  refine EndsQ.go (fun t k => X101.daload hx (j := (0 : Int32)) (v := (.double g0)) (by rw [e101]; exact Ar102.1) (State.isArrayOf_alike hZ.alike Ar102.2.1) Ar102.2.2 hin102 hat102 (g := (mkF m 7 #[.val (.ref (oo 0)), .val (.int (0 : Int32)), .val (.int (0 : Int32)), .val (.int (1 : Int32)), .unset, .unset, .unset, .unset] [(.int (0 : Int32)), (.ref (oo 5))])) rfl rfl (hb hby d12_7) _ k) ?_
  show EndsQ _ _ _ _ _ _ _ (T101.setTop (mkF m 8 #[.val (.ref (oo 0)), .val (.int (0 : Int32)), .val (.int (0 : Int32)), .val (.int (1 : Int32)), .unset, .unset, .unset, .unset] [(.double g0)]))
  refine EndsQ.go (b := T101.setTop (mkF m 114 #[.val (.ref (oo 0)), .val (.int (0 : Int32)), .val (.int (0 : Int32)), .val (.int (1 : Int32)), .val (.double g0), .second, .val (.int (0 : Int32)), .val (.int (1 : Int32))] [(.ref (oo 0))])) (fun t k => ?_) ?_
  · show Steps p.tables e below (T101.setTop (mkF m 8 #[.val (.ref (oo 0)), .val (.int (0 : Int32)), .val (.int (0 : Int32)), .val (.int (1 : Int32)), .unset, .unset, .unset, .unset] [(.double g0)])) _
    refine XS.dstore X101.here hx rfl (hb hby d12_8) rfl (l' := #[.val (.ref (oo 0)), .val (.int (0 : Int32)), .val (.int (0 : Int32)), .val (.int (1 : Int32)), .val (.double g0), .second, .unset, .unset]) rfl ?_
    refine XS.iloadN X101.here hx rfl (hb hby d12_10) rfl ?_
    refine XS.istore X101.here hx rfl (hb hby d12_11) rfl (l' := #[.val (.ref (oo 0)), .val (.int (0 : Int32)), .val (.int (0 : Int32)), .val (.int (1 : Int32)), .val (.double g0), .second, .val (.int (0 : Int32)), .unset]) rfl ?_
    refine XS.iconst X101.here hx rfl (hb hby d12_13) ?_
    show Steps p.tables e below (T101.setTop (mkF m 14 #[.val (.ref (oo 0)), .val (.int (0 : Int32)), .val (.int (0 : Int32)), .val (.int (1 : Int32)), .val (.double g0), .second, .val (.int (0 : Int32)), .unset] [(.int (2 : Int32))])) _
    refine XS.iload X101.here hx rfl (hb hby d12_14) rfl ?_
    refine XS.imul X101.here hx rfl (hb hby d12_16) rfl ?_
    show Steps p.tables e below (T101.setTop (mkF m 17 #[.val (.ref (oo 0)), .val (.int (0 : Int32)), .val (.int (0 : Int32)), .val (.int (1 : Int32)), .val (.double g0), .second, .val (.int (0 : Int32)), .unset] [(.int ((2 : Int32) * (0 : Int32)))])) _
    rw [(by decide : ((2 : Int32) * (0 : Int32)) = (0 : Int32))]
    show Steps p.tables e below (T101.setTop (mkF m 17 #[.val (.ref (oo 0)), .val (.int (0 : Int32)), .val (.int (0 : Int32)), .val (.int (1 : Int32)), .val (.double g0), .second, .val (.int (0 : Int32)), .unset] [(.int (0 : Int32))])) _
    refine XS.iconst X101.here hx rfl (hb hby d12_17) ?_
    refine XS.iadd X101.here hx rfl (hb hby d12_18) rfl ?_
    show Steps p.tables e below (T101.setTop (mkF m 19 #[.val (.ref (oo 0)), .val (.int (0 : Int32)), .val (.int (0 : Int32)), .val (.int (1 : Int32)), .val (.double g0), .second, .val (.int (0 : Int32)), .unset] [(.int ((0 : Int32) + (1 : Int32)))])) _
    rw [(by decide : ((0 : Int32) + (1 : Int32)) = (1 : Int32))]
    show Steps p.tables e below (T101.setTop (mkF m 19 #[.val (.ref (oo 0)), .val (.int (0 : Int32)), .val (.int (0 : Int32)), .val (.int (1 : Int32)), .val (.double g0), .second, .val (.int (0 : Int32)), .unset] [(.int (1 : Int32))])) _
    refine XS.istore X101.here hx rfl (hb hby d12_19) rfl (l' := #[.val (.ref (oo 0)), .val (.int (0 : Int32)), .val (.int (0 : Int32)), .val (.int (1 : Int32)), .val (.double g0), .second, .val (.int (0 : Int32)), .val (.int (1 : Int32))]) rfl ?_
    refine XS.iload X101.here hx rfl (hb hby d12_21) rfl ?_
    refine XS.iloadN X101.here hx rfl (hb hby d12_23) rfl ?_
    refine XS.icmpYes X101.here hx rfl (pc0 := 24) (pc' := 113) rfl (hb hby d12_24) rfl (flt (by decide)).2.1 (by decide) (by decide) ?_
    show Steps p.tables e below (T101.setTop (mkF m 113 #[.val (.ref (oo 0)), .val (.int (0 : Int32)), .val (.int (0 : Int32)), .val (.int (1 : Int32)), .val (.double g0), .second, .val (.int (0 : Int32)), .val (.int (1 : Int32))] [])) _
    refine XS.aloadN X101.here hx rfl (hb hby d12_113) rfl rfl ?_
    show Steps p.tables e below (T101.setTop (mkF m 114 #[.val (.ref (oo 0)), .val (.int (0 : Int32)), .val (.int (0 : Int32)), .val (.int (1 : Int32)), .val (.double g0), .second, .val (.int (0 : Int32)), .val (.int (1 : Int32))] [(.ref (oo 0))])) _
    exact k
  obtain ⟨T103, X103, e103, st103⟩ := getF X101 hx hZ hown (host := "") (Or.inl (hw _ (List.mem_of_getElem? (i := 19) rfl))) Via.refl e101 SF_arranged (g := (mkF m 114 #[.val (.ref (oo 0)), .val (.int (0 : Int32)), .val (.int (0 : Int32)), .val (.int (1 : Int32)), .val (.double g0), .second, .val (.int (0 : Int32)), .val (.int (1 : Int32))] [(.ref (oo 0))])) rfl rfl (hb hby d12_114)
  refine EndsQ.go st103 ?_
  show EndsQ _ _ _ _ _ _ _ (T103.setTop (mkF m 117 #[.val (.ref (oo 0)), .val (.int (0 : Int32)), .val (.int (0 : Int32)), .val (.int (1 : Int32)), .val (.double g0), .second, .val (.int (0 : Int32)), .val (.int (1 : Int32))] [(.ref (oo 5))]))
  refine EndsQ.go (b := T103.setTop (mkF m 123 #[.val (.ref (oo 0)), .val (.int (0 : Int32)), .val (.int (0 : Int32)), .val (.int (1 : Int32)), .val (.double g0), .second, .val (.int (0 : Int32)), .val (.int (1 : Int32))] [(.double g0), (.int (0 : Int32)), (.ref (oo 5))])) (fun t k => ?_) ?_
  · show Steps p.tables e below (T103.setTop (mkF m 117 #[.val (.ref (oo 0)), .val (.int (0 : Int32)), .val (.int (0 : Int32)), .val (.int (1 : Int32)), .val (.double g0), .second, .val (.int (0 : Int32)), .val (.int (1 : Int32))] [(.ref (oo 5))])) _
    refine XS.iloadN X103.here hx rfl (hb hby d12_117) rfl ?_
    refine XS.iload X103.here hx rfl (hb hby d12_118) rfl ?_
    refine XS.iadd X103.here hx rfl (hb hby d12_120) rfl ?_
    show Steps p.tables e below (T103.setTop (mkF m 121 #[.val (.ref (oo 0)), .val (.int (0 : Int32)), .val (.int (0 : Int32)), .val (.int (1 : Int32)), .val (.double g0), .second, .val (.int (0 : Int32)), .val (.int (1 : Int32))] [(.int ((0 : Int32) + (0 : Int32))), (.ref (oo 5))])) _
    rw [(by decide : ((0 : Int32) + (0 : Int32)) = (0 : Int32))]
    show Steps p.tables e below (T103.setTop (mkF m 121 #[.val (.ref (oo 0)), .val (.int (0 : Int32)), .val (.int (0 : Int32)), .val (.int (1 : Int32)), .val (.double g0), .second, .val (.int (0 : Int32)), .val (.int (1 : Int32))] [(.int (0 : Int32)), (.ref (oo 5))])) _
    refine XS.dload X103.here hx rfl (hb hby d12_121) rfl ?_
    show Steps p.tables e below (T103.setTop (mkF m 123 #[.val (.ref (oo 0)), .val (.int (0 : Int32)), .val (.int (0 : Int32)), .val (.int (1 : Int32)), .val (.double g0), .second, .val (.int (0 : Int32)), .val (.int (1 : Int32))] [(.double g0), (.int (0 : Int32)), (.ref (oo 5))])) _
    exact k
  obtain ⟨cl104, Ar104, q104, S104, M104, H104, G104⟩ := id SA_5
  have hin104 : ¬ ((0 : Int32) < 0 ∨ cl104.slots.size ≤ ((0 : Int32)).toNatClampNeg) := inb_of S104 ⟨by decide, by decide⟩
  obtain ⟨T104, h104, X104, e104, W104, st104⟩ := stD X103 hx hZ e103 Ar104 (j := (0 : Int32)) hin104 (g := (mkF m 123 #[.val (.ref (oo 0)), .val (.int (0 : Int32)), .val (.int (0 : Int32)), .val (.int (1 : Int32)), .val (.double g0), .second, .val (.int (0 : Int32)), .val (.int (1 : Int32))] [(.double g0), (.int (0 : Int32)), (.ref (oo 5))])) rfl rfl (hb hby d12_123)
  have fa104 : Arv Z h104 (oo 5) (kk 5) .double (64 : Int32) [(.double g0), (.double g1), (.double g2)] (.double (0 : UInt64)) := Arv.set Ar104 q104 S104 M104 H104 G104 rfl W104 0 rfl (Nat.le_of_ble_eq_true rfl)
  have f105 := SE.wr W104
  have f106 := SF_candidates.other W104 (Or.inl (hne 0 5 (by decide) (by decide) (by decide)))
  have f107 := SF_proposed.other W104 (Or.inl (hne 0 5 (by decide) (by decide) (by decide)))
  have f108 := SF_confidences.other W104 (Or.inl (hne 0 5 (by decide) (by decide) (by decide)))
  have f109 := SF_starts.other W104 (Or.inl (hne 0 5 (by decide) (by decide) (by decide)))
  have f110 := SF_arranged.other W104 (Or.inl (hne 0 5 (by decide) (by decide) (by decide)))
  have f111 := SF_taken.other W104 (Or.inl (hne 0 5 (by decide) (by decide) (by decide)))
  have f112 := SF_indices.other W104 (Or.inl (hne 0 5 (by decide) (by decide) (by decide)))
  have f113 := SF_cnt.other W104 (Or.inl (hne 0 5 (by decide) (by decide) (by decide)))
  have f114 := SF_sz.other W104 (Or.inl (hne 0 5 (by decide) (by decide) (by decide)))
  have f115 := SA_1.other W104 (hne 1 5 (by decide) (by decide) (by decide))
  have f116 := SA_2.other W104 (hne 2 5 (by decide) (by decide) (by decide))
  have f117 := SA_3.other W104 (hne 3 5 (by decide) (by decide) (by decide))
  have f118 := SA_4.other W104 (hne 4 5 (by decide) (by decide) (by decide))
  have f119 := SA_6.other W104 (hne 6 5 (by decide) (by decide) (by decide))
  have f120 := SA_7.other W104 (hne 7 5 (by decide) (by decide) (by decide))
  have f121 := Nat.le_trans Z0 (Keep.of_wr W104).1
  have N104 := Fr.snoc X104 N0 (hn 5 (by decide))
  refine EndsQ.go st104 ?_
  show EndsQ _ _ _ _ _ _ _ (T104.setTop (mkF m 124 #[.val (.ref (oo 0)), .val (.int (0 : Int32)), .val (.int (0 : Int32)), .val (.int (1 : Int32)), .val (.double g0), .second, .val (.int (0 : Int32)), .val (.int (1 : Int32))] []))
  refine EndsQ.retV X104 hx Bd.notSynchronized Bd.returns (hb hby d12_124) (by decide) (by decide) ?_
  show QSift1 Z oo kk c0 c1 c2 r0 r1 r2 d0 d1 d2 s0 s1 s2 g0 g1 g2 t0 t1 t2 vx cnt sz h0 n0 (none) T104.heap _
  rw [e104]
  exact ⟨rfl, N104, f121, ⟨f105, f106, f107, f108, f109, f110, f111, f112, f113, f114, f115, f116, f117, f118, fa104, f119, f120⟩⟩
theorem ef_Sift2 (m : MethodId) (x0 : Addr) (x1 : Int32) (x2 : Int32) (x3 : Int32) : entryFrame m #[(.ref x0), (.int x1), (.int x2), (.int x3)] 8 = mkF m 0 #[.val (.ref x0), .val (.int x1), .val (.int x2), .val (.int x3), .unset, .unset, .unset, .unset] [] := by first | (simp [entryFrame, mkF, argsToLocals, Value.category]; done) | rfl
def QSift2 (Z : State) (oo : Nat → Addr) (kk : Nat → ClassId) (c0 : Int32) (c1 : Int32) (c2 : Int32) (r0 : Int32) (r1 : Int32) (r2 : Int32) (d0 : UInt64) (d1 : UInt64) (d2 : UInt64) (s0 : Int32) (s1 : Int32) (s2 : Int32) (g2 : UInt64) (t0 : Int32) (t1 : Int32) (t2 : Int32) (vx : List Value) (cnt : Int32) (sz : Int32) (x0 : Int64) (x1 : Int64) (h0 : Heap) (n0 : Nat) (v : Option Value) (h : Heap) (L : List Loc) : Prop := v = none ∧ Fr n0 L ∧ n0 ≤ h.size ∧ own_St Z h oo kk cnt sz [(.int c0), (.int c1), (.int c2)] [(.int r0), (.int r1), (.int r2)] [(.double d0), (.double d1), (.double d2)] [(.int s0), (.int s1), (.int s2)] [(.double (FP.l2d (if x0 < x1 then x1 else x0))), (.double (FP.l2d (if x0 < x1 then x0 else x1))), (.double g2)] [(.int t0), (.int t1), (.int t2)] vx
set_option maxRecDepth 65536 in
set_option maxHeartbeats 40000000 in
theorem rmSift2 (l : Launch) (Z : State) (a0 : Array Value) (hw : ∀ d ∈ tables_1, d.before a0 Z = true) (ws : List Jvm.Cond) (oo : Nat → Addr) (kk : Nat → ClassId) (c0 : Int32) (c1 : Int32) (c2 : Int32) (r0 : Int32) (r1 : Int32) (r2 : Int32) (d0 : UInt64) (d1 : UInt64) (d2 : UInt64) (s0 : Int32) (s1 : Int32) (s2 : Int32) (g2 : UInt64) (t0 : Int32) (t1 : Int32) (t2 : Int32) (vx : List Value) (cnt : Int32) (sz : Int32) (x0 : Int64) (x1 : Int64) (h0 : Heap) (n0 : Nat) (Z0 : n0 ≤ h0.size) (hne : own_ne oo) (hn : own_nn n0 oo) (HS : own_St Z h0 oo kk cnt sz [(.int c0), (.int c1), (.int c2)] [(.int r0), (.int r1), (.int r2)] [(.double d0), (.double d1), (.double d2)] [(.int s0), (.int s1), (.int s2)] [(.double (FP.l2d x0)), (.double (FP.l2d x1)), (.double g2)] [(.int t0), (.int t1), (.int t2)] vx) (hx0 : B53 x0) (hx1 : B53 x1) :
    MetFree l (⟨"com/example/physarum/physarum/Proposals", "siftDown", "(III)V"⟩ : MethodName) (head1 (Jvm.Cond.code (⟨"com/example/physarum/physarum/Proposals", "siftDown", "(III)V"⟩ : MethodName) prog_44_method_11_code 8 none :: ws) ({ frames := 0, cells := 0, slots := 0, locals := 0 } : Room)) (fun a U => a = #[(.ref (oo 0)), (.int (0 : Int32)), (.int (0 : Int32)), (.int (2 : Int32))] ∧ Z.Warmed39 U.vm ∧ U.heap = h0) (fun _ _ _ _ _ => True) (fun _ U o U' => ∃ v L, o = .returned v ∧ QSift2 Z oo kk c0 c1 c2 r0 r1 r2 d0 d1 d2 s0 s1 s2 g2 t0 t1 t2 vx cnt sz x0 x1 h0 n0 v U'.heap L ∧ FrameEnd U o U' L ({ frames := 0, cells := 0, slots := 0, locals := 0 } : Room).cells ({ frames := 0, cells := 0, slots := 0, locals := 0 } : Room).slots) := by
  refine MetFree.of_bodySF (plainFor_of_name pn_12) hisR ?_
  intro p e s m args below meth c s₁ Bd hml0 hP hK
  obtain ⟨rfl, hZ, hh⟩ := hP
  have hx := Bd.exec
  have hby := Bd.bytes
  have hml : c.maxLocals = 8 := hml0
  have hown : s.vm.findClass "com/example/physarum/physarum/Proposals" = some m.cls := findClass_of_methodNamed Bd.named
  have hnm := (name_of_methodNamed Bd.named Bd.method).1
  have X0 : Stand p l e ({ frames := 0, cells := 0, slots := 0, locals := 0 } : Room) s m #[(.ref (oo 0)), (.int (0 : Int32)), (.int (0 : Int32)), (.int (2 : Int32))] below meth c s₁ [] 0 0 := Stand.of_body Bd
  have e0 : s₁.heap = h0 := by rw [← hh, Bd.state]; rfl
  have N0 := Fr.nil n0
  show EndsQ p.tables e below s (fun v h L => QSift2 Z oo kk c0 c1 c2 r0 r1 r2 d0 d1 d2 s0 s1 s2 g2 t0 t1 t2 vx cnt sz x0 x1 h0 n0 v h L) ({ frames := 0, cells := 0, slots := 0, locals := 0 } : Room).cells ({ frames := 0, cells := 0, slots := 0, locals := 0 } : Room).slots _
  refine EndsQ.go (b := s₁.setTop (mkF m 0 #[.val (.ref (oo 0)), .val (.int (0 : Int32)), .val (.int (0 : Int32)), .val (.int (2 : Int32)), .unset, .unset, .unset, .unset] [])) (fun t k => castTop (ef_Sift2 m (oo 0) (0 : Int32) (0 : Int32) (2 : Int32)) k) ?_
  have HS0 := HS
  obtain ⟨SE, SF_candidates, SF_proposed, SF_confidences, SF_starts, SF_arranged, SF_taken, SF_indices, SF_cnt, SF_sz, SA_1, SA_2, SA_3, SA_4, SA_5, SA_6, SA_7⟩ := HS
  refine EndsQ.go (b := s₁.setTop (mkF m 1 #[.val (.ref (oo 0)), .val (.int (0 : Int32)), .val (.int (0 : Int32)), .val (.int (2 : Int32)), .unset, .unset, .unset, .unset] [(.ref (oo 0))])) (fun t k => ?_) ?_
  · show Steps p.tables e below (s₁.setTop (mkF m 0 #[.val (.ref (oo 0)), .val (.int (0 : Int32)), .val (.int (0 : Int32)), .val (.int (2 : Int32)), .unset, .unset, .unset, .unset] [])) _
    refine XS.aloadN X0.here hx rfl (hb hby d12_0) rfl rfl ?_
    exact k
  obtain ⟨T101, X101, e101, st101⟩ := getF X0 hx hZ hown (host := "") (Or.inl (hw _ (List.mem_of_getElem? (i := 19) rfl))) Via.refl e0 SF_arranged (g := (mkF m 1 #[.val (.ref (oo 0)), .val (.int (0 : Int32)), .val (.int (0 : Int32)), .val (.int (2 : Int32)), .unset, .unset, .unset, .unset] [(.ref (oo 0))])) rfl rfl (hb hby d12_1)
  refine EndsQ.go st101 ?_
  show EndsQ _ _ _ _ _ _ _ (T101.setTop (mkF m 4 #[.val (.ref (oo 0)), .val (.int (0 : Int32)), .val (.int (0 : Int32)), .val (.int (2 : Int32)), .unset, .unset, .unset, .unset] [(.ref (oo 5))]))
  refine EndsQ.go (b := T101.setTop (mkF m 7 #[.val (.ref (oo 0)), .val (.int (0 : Int32)), .val (.int (0 : Int32)), .val (.int (2 : Int32)), .unset, .unset, .unset, .unset] [(.int (0 : Int32)), (.ref (oo 5))])) (fun t k => ?_) ?_
  · show Steps p.tables e below (T101.setTop (mkF m 4 #[.val (.ref (oo 0)), .val (.int (0 : Int32)), .val (.int (0 : Int32)), .val (.int (2 : Int32)), .unset, .unset, .unset, .unset] [(.ref (oo 5))])) _
    refine XS.iloadN X101.here hx rfl (hb hby d12_4) rfl ?_
    refine XS.iloadN X101.here hx rfl (hb hby d12_5) rfl ?_
    refine XS.iadd X101.here hx rfl (hb hby d12_6) rfl ?_
    show Steps p.tables e below (T101.setTop (mkF m 7 #[.val (.ref (oo 0)), .val (.int (0 : Int32)), .val (.int (0 : Int32)), .val (.int (2 : Int32)), .unset, .unset, .unset, .unset] [(.int ((0 : Int32) + (0 : Int32))), (.ref (oo 5))])) _
    rw [(by decide : ((0 : Int32) + (0 : Int32)) = (0 : Int32))]
    show Steps p.tables e below (T101.setTop (mkF m 7 #[.val (.ref (oo 0)), .val (.int (0 : Int32)), .val (.int (0 : Int32)), .val (.int (2 : Int32)), .unset, .unset, .unset, .unset] [(.int (0 : Int32)), (.ref (oo 5))])) _
    exact k
  obtain ⟨cl102, Ar102, q102, S102, M102, H102, G102⟩ := id SA_5
  have hin102 : ¬ ((0 : Int32) < 0 ∨ cl102.slots.size ≤ ((0 : Int32)).toNatClampNeg) := inb_of S102 ⟨by decide, by decide⟩
  have hat102 : cl102.slots[((0 : Int32)).toNatClampNeg]? = some (.double (FP.l2d x0)) := Has.at H102 hin102 rfl
  refine EndsQ.go (fun t k => X101.daload hx (j := (0 : Int32)) (v := (.double (FP.l2d x0))) (by rw [e101]; exact Ar102.1) (State.isArrayOf_alike hZ.alike Ar102.2.1) Ar102.2.2 hin102 hat102 (g := (mkF m 7 #[.val (.ref (oo 0)), .val (.int (0 : Int32)), .val (.int (0 : Int32)), .val (.int (2 : Int32)), .unset, .unset, .unset, .unset] [(.int (0 : Int32)), (.ref (oo 5))])) rfl rfl (hb hby d12_7) _ k) ?_
  show EndsQ _ _ _ _ _ _ _ (T101.setTop (mkF m 8 #[.val (.ref (oo 0)), .val (.int (0 : Int32)), .val (.int (0 : Int32)), .val (.int (2 : Int32)), .unset, .unset, .unset, .unset] [(.double (FP.l2d x0))]))
  refine EndsQ.go (b := T101.setTop (mkF m 63 #[.val (.ref (oo 0)), .val (.int (0 : Int32)), .val (.int (0 : Int32)), .val (.int (2 : Int32)), .val (.double (FP.l2d x0)), .second, .val (.int (0 : Int32)), .val (.int (1 : Int32))] [(.ref (oo 0))])) (fun t k => ?_) ?_
  · show Steps p.tables e below (T101.setTop (mkF m 8 #[.val (.ref (oo 0)), .val (.int (0 : Int32)), .val (.int (0 : Int32)), .val (.int (2 : Int32)), .unset, .unset, .unset, .unset] [(.double (FP.l2d x0))])) _
    refine XS.dstore X101.here hx rfl (hb hby d12_8) rfl (l' := #[.val (.ref (oo 0)), .val (.int (0 : Int32)), .val (.int (0 : Int32)), .val (.int (2 : Int32)), .val (.double (FP.l2d x0)), .second, .unset, .unset]) rfl ?_
    refine XS.iloadN X101.here hx rfl (hb hby d12_10) rfl ?_
    refine XS.istore X101.here hx rfl (hb hby d12_11) rfl (l' := #[.val (.ref (oo 0)), .val (.int (0 : Int32)), .val (.int (0 : Int32)), .val (.int (2 : Int32)), .val (.double (FP.l2d x0)), .second, .val (.int (0 : Int32)), .unset]) rfl ?_
    refine XS.iconst X101.here hx rfl (hb hby d12_13) ?_
    show Steps p.tables e below (T101.setTop (mkF m 14 #[.val (.ref (oo 0)), .val (.int (0 : Int32)), .val (.int (0 : Int32)), .val (.int (2 : Int32)), .val (.double (FP.l2d x0)), .second, .val (.int (0 : Int32)), .unset] [(.int (2 : Int32))])) _
    refine XS.iload X101.here hx rfl (hb hby d12_14) rfl ?_
    refine XS.imul X101.here hx rfl (hb hby d12_16) rfl ?_
    show Steps p.tables e below (T101.setTop (mkF m 17 #[.val (.ref (oo 0)), .val (.int (0 : Int32)), .val (.int (0 : Int32)), .val (.int (2 : Int32)), .val (.double (FP.l2d x0)), .second, .val (.int (0 : Int32)), .unset] [(.int ((2 : Int32) * (0 : Int32)))])) _
    rw [(by decide : ((2 : Int32) * (0 : Int32)) = (0 : Int32))]
    show Steps p.tables e below (T101.setTop (mkF m 17 #[.val (.ref (oo 0)), .val (.int (0 : Int32)), .val (.int (0 : Int32)), .val (.int (2 : Int32)), .val (.double (FP.l2d x0)), .second, .val (.int (0 : Int32)), .unset] [(.int (0 : Int32))])) _
    refine XS.iconst X101.here hx rfl (hb hby d12_17) ?_
    refine XS.iadd X101.here hx rfl (hb hby d12_18) rfl ?_
    show Steps p.tables e below (T101.setTop (mkF m 19 #[.val (.ref (oo 0)), .val (.int (0 : Int32)), .val (.int (0 : Int32)), .val (.int (2 : Int32)), .val (.double (FP.l2d x0)), .second, .val (.int (0 : Int32)), .unset] [(.int ((0 : Int32) + (1 : Int32)))])) _
    rw [(by decide : ((0 : Int32) + (1 : Int32)) = (1 : Int32))]
    show Steps p.tables e below (T101.setTop (mkF m 19 #[.val (.ref (oo 0)), .val (.int (0 : Int32)), .val (.int (0 : Int32)), .val (.int (2 : Int32)), .val (.double (FP.l2d x0)), .second, .val (.int (0 : Int32)), .unset] [(.int (1 : Int32))])) _
    refine XS.istore X101.here hx rfl (hb hby d12_19) rfl (l' := #[.val (.ref (oo 0)), .val (.int (0 : Int32)), .val (.int (0 : Int32)), .val (.int (2 : Int32)), .val (.double (FP.l2d x0)), .second, .val (.int (0 : Int32)), .val (.int (1 : Int32))]) rfl ?_
    refine XS.iload X101.here hx rfl (hb hby d12_21) rfl ?_
    refine XS.iloadN X101.here hx rfl (hb hby d12_23) rfl ?_
    refine XS.icmpNo X101.here hx rfl (hb hby d12_24) rfl (tlt (by decide)).2.1 ?_
    show Steps p.tables e below (T101.setTop (mkF m 27 #[.val (.ref (oo 0)), .val (.int (0 : Int32)), .val (.int (0 : Int32)), .val (.int (2 : Int32)), .val (.double (FP.l2d x0)), .second, .val (.int (0 : Int32)), .val (.int (1 : Int32))] [])) _
    refine XS.iload X101.here hx rfl (hb hby d12_27) rfl ?_
    show Steps p.tables e below (T101.setTop (mkF m 29 #[.val (.ref (oo 0)), .val (.int (0 : Int32)), .val (.int (0 : Int32)), .val (.int (2 : Int32)), .val (.double (FP.l2d x0)), .second, .val (.int (0 : Int32)), .val (.int (1 : Int32))] [(.int (1 : Int32))])) _
    refine XS.iconst X101.here hx rfl (hb hby d12_29) ?_
    refine XS.iadd X101.here hx rfl (hb hby d12_30) rfl ?_
    show Steps p.tables e below (T101.setTop (mkF m 31 #[.val (.ref (oo 0)), .val (.int (0 : Int32)), .val (.int (0 : Int32)), .val (.int (2 : Int32)), .val (.double (FP.l2d x0)), .second, .val (.int (0 : Int32)), .val (.int (1 : Int32))] [(.int ((1 : Int32) + (1 : Int32)))])) _
    rw [(by decide : ((1 : Int32) + (1 : Int32)) = (2 : Int32))]
    show Steps p.tables e below (T101.setTop (mkF m 31 #[.val (.ref (oo 0)), .val (.int (0 : Int32)), .val (.int (0 : Int32)), .val (.int (2 : Int32)), .val (.double (FP.l2d x0)), .second, .val (.int (0 : Int32)), .val (.int (1 : Int32))] [(.int (2 : Int32))])) _
    refine XS.iloadN X101.here hx rfl (hb hby d12_31) rfl ?_
    refine XS.icmpYes X101.here hx rfl (pc0 := 32) (pc' := 62) rfl (hb hby d12_32) rfl (flt (by decide)).2.1 (by decide) (by decide) ?_
    show Steps p.tables e below (T101.setTop (mkF m 62 #[.val (.ref (oo 0)), .val (.int (0 : Int32)), .val (.int (0 : Int32)), .val (.int (2 : Int32)), .val (.double (FP.l2d x0)), .second, .val (.int (0 : Int32)), .val (.int (1 : Int32))] [])) _
    refine XS.aloadN X101.here hx rfl (hb hby d12_62) rfl rfl ?_
    show Steps p.tables e below (T101.setTop (mkF m 63 #[.val (.ref (oo 0)), .val (.int (0 : Int32)), .val (.int (0 : Int32)), .val (.int (2 : Int32)), .val (.double (FP.l2d x0)), .second, .val (.int (0 : Int32)), .val (.int (1 : Int32))] [(.ref (oo 0))])) _
    exact k
  obtain ⟨T103, X103, e103, st103⟩ := getF X101 hx hZ hown (host := "") (Or.inl (hw _ (List.mem_of_getElem? (i := 19) rfl))) Via.refl e101 SF_arranged (g := (mkF m 63 #[.val (.ref (oo 0)), .val (.int (0 : Int32)), .val (.int (0 : Int32)), .val (.int (2 : Int32)), .val (.double (FP.l2d x0)), .second, .val (.int (0 : Int32)), .val (.int (1 : Int32))] [(.ref (oo 0))])) rfl rfl (hb hby d12_63)
  refine EndsQ.go st103 ?_
  show EndsQ _ _ _ _ _ _ _ (T103.setTop (mkF m 66 #[.val (.ref (oo 0)), .val (.int (0 : Int32)), .val (.int (0 : Int32)), .val (.int (2 : Int32)), .val (.double (FP.l2d x0)), .second, .val (.int (0 : Int32)), .val (.int (1 : Int32))] [(.ref (oo 5))]))
  refine EndsQ.go (b := T103.setTop (mkF m 70 #[.val (.ref (oo 0)), .val (.int (0 : Int32)), .val (.int (0 : Int32)), .val (.int (2 : Int32)), .val (.double (FP.l2d x0)), .second, .val (.int (0 : Int32)), .val (.int (1 : Int32))] [(.int (1 : Int32)), (.ref (oo 5))])) (fun t k => ?_) ?_
  · show Steps p.tables e below (T103.setTop (mkF m 66 #[.val (.ref (oo 0)), .val (.int (0 : Int32)), .val (.int (0 : Int32)), .val (.int (2 : Int32)), .val (.double (FP.l2d x0)), .second, .val (.int (0 : Int32)), .val (.int (1 : Int32))] [(.ref (oo 5))])) _
    refine XS.iloadN X103.here hx rfl (hb hby d12_66) rfl ?_
    refine XS.iload X103.here hx rfl (hb hby d12_67) rfl ?_
    refine XS.iadd X103.here hx rfl (hb hby d12_69) rfl ?_
    show Steps p.tables e below (T103.setTop (mkF m 70 #[.val (.ref (oo 0)), .val (.int (0 : Int32)), .val (.int (0 : Int32)), .val (.int (2 : Int32)), .val (.double (FP.l2d x0)), .second, .val (.int (0 : Int32)), .val (.int (1 : Int32))] [(.int ((0 : Int32) + (1 : Int32))), (.ref (oo 5))])) _
    rw [(by decide : ((0 : Int32) + (1 : Int32)) = (1 : Int32))]
    show Steps p.tables e below (T103.setTop (mkF m 70 #[.val (.ref (oo 0)), .val (.int (0 : Int32)), .val (.int (0 : Int32)), .val (.int (2 : Int32)), .val (.double (FP.l2d x0)), .second, .val (.int (0 : Int32)), .val (.int (1 : Int32))] [(.int (1 : Int32)), (.ref (oo 5))])) _
    exact k
  obtain ⟨cl104, Ar104, q104, S104, M104, H104, G104⟩ := id SA_5
  have hin104 : ¬ ((1 : Int32) < 0 ∨ cl104.slots.size ≤ ((1 : Int32)).toNatClampNeg) := inb_of S104 ⟨by decide, by decide⟩
  have hat104 : cl104.slots[((1 : Int32)).toNatClampNeg]? = some (.double (FP.l2d x1)) := Has.at H104 hin104 rfl
  refine EndsQ.go (fun t k => X103.daload hx (j := (1 : Int32)) (v := (.double (FP.l2d x1))) (by rw [e103]; exact Ar104.1) (State.isArrayOf_alike hZ.alike Ar104.2.1) Ar104.2.2 hin104 hat104 (g := (mkF m 70 #[.val (.ref (oo 0)), .val (.int (0 : Int32)), .val (.int (0 : Int32)), .val (.int (2 : Int32)), .val (.double (FP.l2d x0)), .second, .val (.int (0 : Int32)), .val (.int (1 : Int32))] [(.int (1 : Int32)), (.ref (oo 5))])) rfl rfl (hb hby d12_70) _ k) ?_
  show EndsQ _ _ _ _ _ _ _ (T103.setTop (mkF m 71 #[.val (.ref (oo 0)), .val (.int (0 : Int32)), .val (.int (0 : Int32)), .val (.int (2 : Int32)), .val (.double (FP.l2d x0)), .second, .val (.int (0 : Int32)), .val (.int (1 : Int32))] [(.double (FP.l2d x1))]))
  refine EndsQ.go (b := T103.setTop (mkF m 74 #[.val (.ref (oo 0)), .val (.int (0 : Int32)), .val (.int (0 : Int32)), .val (.int (2 : Int32)), .val (.double (FP.l2d x0)), .second, .val (.int (0 : Int32)), .val (.int (1 : Int32))] [(.int (lcmpW x1 x0))])) (fun t k => ?_) ?_
  · show Steps p.tables e below (T103.setTop (mkF m 71 #[.val (.ref (oo 0)), .val (.int (0 : Int32)), .val (.int (0 : Int32)), .val (.int (2 : Int32)), .val (.double (FP.l2d x0)), .second, .val (.int (0 : Int32)), .val (.int (1 : Int32))] [(.double (FP.l2d x1))])) _
    refine XS.dload X103.here hx rfl (hb hby d12_71) rfl ?_
    show Steps p.tables e below (T103.setTop (mkF m 73 #[.val (.ref (oo 0)), .val (.int (0 : Int32)), .val (.int (0 : Int32)), .val (.int (2 : Int32)), .val (.double (FP.l2d x0)), .second, .val (.int (0 : Int32)), .val (.int (1 : Int32))] [(.double (FP.l2d x0)), (.double (FP.l2d x1))])) _
    refine XS.dcmpS X103.here hx rfl (hb hby d12_73) rfl (dcmpV_w hx1 hx0 .g) ?_
    exact k
  by_cases hc74_105 : x0 < x1
  · refine EndsQ.go (b := T103.setTop (mkF m 80 #[.val (.ref (oo 0)), .val (.int (0 : Int32)), .val (.int (0 : Int32)), .val (.int (2 : Int32)), .val (.double (FP.l2d x0)), .second, .val (.int (0 : Int32)), .val (.int (1 : Int32))] [])) (fun t k => ?_) ?_
    · show Steps p.tables e below (T103.setTop (mkF m 74 #[.val (.ref (oo 0)), .val (.int (0 : Int32)), .val (.int (0 : Int32)), .val (.int (2 : Int32)), .val (.double (FP.l2d x0)), .second, .val (.int (0 : Int32)), .val (.int (1 : Int32))] [(.int (lcmpW x1 x0))])) _
      refine XS.ifYes X103.here hx rfl (pc0 := 74) (pc' := 80) rfl (hb hby d12_74) rfl ((if0 _ _).trans (tlt ((lw_gt x1 x0).mpr hc74_105)).2.2.1) (by decide) (by decide) ?_
      show Steps p.tables e below (T103.setTop (mkF m 80 #[.val (.ref (oo 0)), .val (.int (0 : Int32)), .val (.int (0 : Int32)), .val (.int (2 : Int32)), .val (.double (FP.l2d x0)), .second, .val (.int (0 : Int32)), .val (.int (1 : Int32))] [])) _
      exact k
    refine EndsQ.go (b := T103.setTop (mkF m 81 #[.val (.ref (oo 0)), .val (.int (0 : Int32)), .val (.int (0 : Int32)), .val (.int (2 : Int32)), .val (.double (FP.l2d x0)), .second, .val (.int (0 : Int32)), .val (.int (1 : Int32))] [(.ref (oo 0))])) (fun t k => ?_) ?_
    · show Steps p.tables e below (T103.setTop (mkF m 80 #[.val (.ref (oo 0)), .val (.int (0 : Int32)), .val (.int (0 : Int32)), .val (.int (2 : Int32)), .val (.double (FP.l2d x0)), .second, .val (.int (0 : Int32)), .val (.int (1 : Int32))] [])) _
      refine XS.aloadN X103.here hx rfl (hb hby d12_80) rfl rfl ?_
      exact k
    obtain ⟨T106, X106, e106, st106⟩ := getF X103 hx hZ hown (host := "") (Or.inl (hw _ (List.mem_of_getElem? (i := 19) rfl))) Via.refl e103 SF_arranged (g := (mkF m 81 #[.val (.ref (oo 0)), .val (.int (0 : Int32)), .val (.int (0 : Int32)), .val (.int (2 : Int32)), .val (.double (FP.l2d x0)), .second, .val (.int (0 : Int32)), .val (.int (1 : Int32))] [(.ref (oo 0))])) rfl rfl (hb hby d12_81)
    refine EndsQ.go st106 ?_
    show EndsQ _ _ _ _ _ _ _ (T106.setTop (mkF m 84 #[.val (.ref (oo 0)), .val (.int (0 : Int32)), .val (.int (0 : Int32)), .val (.int (2 : Int32)), .val (.double (FP.l2d x0)), .second, .val (.int (0 : Int32)), .val (.int (1 : Int32))] [(.ref (oo 5))]))
    refine EndsQ.go (b := T106.setTop (mkF m 89 #[.val (.ref (oo 0)), .val (.int (0 : Int32)), .val (.int (0 : Int32)), .val (.int (2 : Int32)), .val (.double (FP.l2d x0)), .second, .val (.int (0 : Int32)), .val (.int (1 : Int32))] [(.ref (oo 0)), (.int (0 : Int32)), (.ref (oo 5))])) (fun t k => ?_) ?_
    · show Steps p.tables e below (T106.setTop (mkF m 84 #[.val (.ref (oo 0)), .val (.int (0 : Int32)), .val (.int (0 : Int32)), .val (.int (2 : Int32)), .val (.double (FP.l2d x0)), .second, .val (.int (0 : Int32)), .val (.int (1 : Int32))] [(.ref (oo 5))])) _
      refine XS.iloadN X106.here hx rfl (hb hby d12_84) rfl ?_
      refine XS.iload X106.here hx rfl (hb hby d12_85) rfl ?_
      show Steps p.tables e below (T106.setTop (mkF m 87 #[.val (.ref (oo 0)), .val (.int (0 : Int32)), .val (.int (0 : Int32)), .val (.int (2 : Int32)), .val (.double (FP.l2d x0)), .second, .val (.int (0 : Int32)), .val (.int (1 : Int32))] [(.int (0 : Int32)), (.int (0 : Int32)), (.ref (oo 5))])) _
      refine XS.iadd X106.here hx rfl (hb hby d12_87) rfl ?_
      show Steps p.tables e below (T106.setTop (mkF m 88 #[.val (.ref (oo 0)), .val (.int (0 : Int32)), .val (.int (0 : Int32)), .val (.int (2 : Int32)), .val (.double (FP.l2d x0)), .second, .val (.int (0 : Int32)), .val (.int (1 : Int32))] [(.int ((0 : Int32) + (0 : Int32))), (.ref (oo 5))])) _
      rw [(by decide : ((0 : Int32) + (0 : Int32)) = (0 : Int32))]
      show Steps p.tables e below (T106.setTop (mkF m 88 #[.val (.ref (oo 0)), .val (.int (0 : Int32)), .val (.int (0 : Int32)), .val (.int (2 : Int32)), .val (.double (FP.l2d x0)), .second, .val (.int (0 : Int32)), .val (.int (1 : Int32))] [(.int (0 : Int32)), (.ref (oo 5))])) _
      refine XS.aloadN X106.here hx rfl (hb hby d12_88) rfl rfl ?_
      exact k
    obtain ⟨T107, X107, e107, st107⟩ := getF X106 hx hZ hown (host := "") (Or.inl (hw _ (List.mem_of_getElem? (i := 19) rfl))) Via.refl e106 SF_arranged (g := (mkF m 89 #[.val (.ref (oo 0)), .val (.int (0 : Int32)), .val (.int (0 : Int32)), .val (.int (2 : Int32)), .val (.double (FP.l2d x0)), .second, .val (.int (0 : Int32)), .val (.int (1 : Int32))] [(.ref (oo 0)), (.int (0 : Int32)), (.ref (oo 5))])) rfl rfl (hb hby d12_89)
    refine EndsQ.go st107 ?_
    show EndsQ _ _ _ _ _ _ _ (T107.setTop (mkF m 92 #[.val (.ref (oo 0)), .val (.int (0 : Int32)), .val (.int (0 : Int32)), .val (.int (2 : Int32)), .val (.double (FP.l2d x0)), .second, .val (.int (0 : Int32)), .val (.int (1 : Int32))] [(.ref (oo 5)), (.int (0 : Int32)), (.ref (oo 5))]))
    refine EndsQ.go (b := T107.setTop (mkF m 96 #[.val (.ref (oo 0)), .val (.int (0 : Int32)), .val (.int (0 : Int32)), .val (.int (2 : Int32)), .val (.double (FP.l2d x0)), .second, .val (.int (0 : Int32)), .val (.int (1 : Int32))] [(.int (1 : Int32)), (.ref (oo 5)), (.int (0 : Int32)), (.ref (oo 5))])) (fun t k => ?_) ?_
    · show Steps p.tables e below (T107.setTop (mkF m 92 #[.val (.ref (oo 0)), .val (.int (0 : Int32)), .val (.int (0 : Int32)), .val (.int (2 : Int32)), .val (.double (FP.l2d x0)), .second, .val (.int (0 : Int32)), .val (.int (1 : Int32))] [(.ref (oo 5)), (.int (0 : Int32)), (.ref (oo 5))])) _
      refine XS.iloadN X107.here hx rfl (hb hby d12_92) rfl ?_
      refine XS.iload X107.here hx rfl (hb hby d12_93) rfl ?_
      show Steps p.tables e below (T107.setTop (mkF m 95 #[.val (.ref (oo 0)), .val (.int (0 : Int32)), .val (.int (0 : Int32)), .val (.int (2 : Int32)), .val (.double (FP.l2d x0)), .second, .val (.int (0 : Int32)), .val (.int (1 : Int32))] [(.int (1 : Int32)), (.int (0 : Int32)), (.ref (oo 5)), (.int (0 : Int32)), (.ref (oo 5))])) _
      refine XS.iadd X107.here hx rfl (hb hby d12_95) rfl ?_
      show Steps p.tables e below (T107.setTop (mkF m 96 #[.val (.ref (oo 0)), .val (.int (0 : Int32)), .val (.int (0 : Int32)), .val (.int (2 : Int32)), .val (.double (FP.l2d x0)), .second, .val (.int (0 : Int32)), .val (.int (1 : Int32))] [(.int ((0 : Int32) + (1 : Int32))), (.ref (oo 5)), (.int (0 : Int32)), (.ref (oo 5))])) _
      rw [(by decide : ((0 : Int32) + (1 : Int32)) = (1 : Int32))]
      show Steps p.tables e below (T107.setTop (mkF m 96 #[.val (.ref (oo 0)), .val (.int (0 : Int32)), .val (.int (0 : Int32)), .val (.int (2 : Int32)), .val (.double (FP.l2d x0)), .second, .val (.int (0 : Int32)), .val (.int (1 : Int32))] [(.int (1 : Int32)), (.ref (oo 5)), (.int (0 : Int32)), (.ref (oo 5))])) _
      exact k
    obtain ⟨cl108, Ar108, q108, S108, M108, H108, G108⟩ := id SA_5
    have hin108 : ¬ ((1 : Int32) < 0 ∨ cl108.slots.size ≤ ((1 : Int32)).toNatClampNeg) := inb_of S108 ⟨by decide, by decide⟩
    have hat108 : cl108.slots[((1 : Int32)).toNatClampNeg]? = some (.double (FP.l2d x1)) := Has.at H108 hin108 rfl
    refine EndsQ.go (fun t k => X107.daload hx (j := (1 : Int32)) (v := (.double (FP.l2d x1))) (by rw [e107]; exact Ar108.1) (State.isArrayOf_alike hZ.alike Ar108.2.1) Ar108.2.2 hin108 hat108 (g := (mkF m 96 #[.val (.ref (oo 0)), .val (.int (0 : Int32)), .val (.int (0 : Int32)), .val (.int (2 : Int32)), .val (.double (FP.l2d x0)), .second, .val (.int (0 : Int32)), .val (.int (1 : Int32))] [(.int (1 : Int32)), (.ref (oo 5)), (.int (0 : Int32)), (.ref (oo 5))])) rfl rfl (hb hby d12_96) _ k) ?_
    show EndsQ _ _ _ _ _ _ _ (T107.setTop (mkF m 97 #[.val (.ref (oo 0)), .val (.int (0 : Int32)), .val (.int (0 : Int32)), .val (.int (2 : Int32)), .val (.double (FP.l2d x0)), .second, .val (.int (0 : Int32)), .val (.int (1 : Int32))] [(.double (FP.l2d x1)), (.int (0 : Int32)), (.ref (oo 5))]))
    obtain ⟨cl109, Ar109, q109, S109, M109, H109, G109⟩ := id SA_5
    have hin109 : ¬ ((0 : Int32) < 0 ∨ cl109.slots.size ≤ ((0 : Int32)).toNatClampNeg) := inb_of S109 ⟨by decide, by decide⟩
    obtain ⟨T109, h109, X109, e109, W109, st109⟩ := stD X107 hx hZ e107 Ar109 (j := (0 : Int32)) hin109 (g := (mkF m 97 #[.val (.ref (oo 0)), .val (.int (0 : Int32)), .val (.int (0 : Int32)), .val (.int (2 : Int32)), .val (.double (FP.l2d x0)), .second, .val (.int (0 : Int32)), .val (.int (1 : Int32))] [(.double (FP.l2d x1)), (.int (0 : Int32)), (.ref (oo 5))])) rfl rfl (hb hby d12_97)
    have fa109 : Arv Z h109 (oo 5) (kk 5) .double (64 : Int32) [(.double (FP.l2d x1)), (.double (FP.l2d x1)), (.double g2)] (.double (0 : UInt64)) := Arv.set Ar109 q109 S109 M109 H109 G109 rfl W109 0 rfl (Nat.le_of_ble_eq_true rfl)
    have f110 := SE.wr W109
    have f111 := SF_candidates.other W109 (Or.inl (hne 0 5 (by decide) (by decide) (by decide)))
    have f112 := SF_proposed.other W109 (Or.inl (hne 0 5 (by decide) (by decide) (by decide)))
    have f113 := SF_confidences.other W109 (Or.inl (hne 0 5 (by decide) (by decide) (by decide)))
    have f114 := SF_starts.other W109 (Or.inl (hne 0 5 (by decide) (by decide) (by decide)))
    have f115 := SF_arranged.other W109 (Or.inl (hne 0 5 (by decide) (by decide) (by decide)))
    have f116 := SF_taken.other W109 (Or.inl (hne 0 5 (by decide) (by decide) (by decide)))
    have f117 := SF_indices.other W109 (Or.inl (hne 0 5 (by decide) (by decide) (by decide)))
    have f118 := SF_cnt.other W109 (Or.inl (hne 0 5 (by decide) (by decide) (by decide)))
    have f119 := SF_sz.other W109 (Or.inl (hne 0 5 (by decide) (by decide) (by decide)))
    have f120 := SA_1.other W109 (hne 1 5 (by decide) (by decide) (by decide))
    have f121 := SA_2.other W109 (hne 2 5 (by decide) (by decide) (by decide))
    have f122 := SA_3.other W109 (hne 3 5 (by decide) (by decide) (by decide))
    have f123 := SA_4.other W109 (hne 4 5 (by decide) (by decide) (by decide))
    have f124 := SA_6.other W109 (hne 6 5 (by decide) (by decide) (by decide))
    have f125 := SA_7.other W109 (hne 7 5 (by decide) (by decide) (by decide))
    have f126 := Nat.le_trans Z0 (Keep.of_wr W109).1
    have N109 := Fr.snoc X109 N0 (hn 5 (by decide))
    refine EndsQ.go st109 ?_
    show EndsQ _ _ _ _ _ _ _ (T109.setTop (mkF m 98 #[.val (.ref (oo 0)), .val (.int (0 : Int32)), .val (.int (0 : Int32)), .val (.int (2 : Int32)), .val (.double (FP.l2d x0)), .second, .val (.int (0 : Int32)), .val (.int (1 : Int32))] []))
    refine EndsQ.go (b := T109.setTop (mkF m 114 #[.val (.ref (oo 0)), .val (.int (0 : Int32)), .val (.int (0 : Int32)), .val (.int (2 : Int32)), .val (.double (FP.l2d x0)), .second, .val (.int (1 : Int32)), .val (.int (3 : Int32))] [(.ref (oo 0))])) (fun t k => ?_) ?_
    · show Steps p.tables e below (T109.setTop (mkF m 98 #[.val (.ref (oo 0)), .val (.int (0 : Int32)), .val (.int (0 : Int32)), .val (.int (2 : Int32)), .val (.double (FP.l2d x0)), .second, .val (.int (0 : Int32)), .val (.int (1 : Int32))] [])) _
      refine XS.iload X109.here hx rfl (hb hby d12_98) rfl ?_
      refine XS.istore X109.here hx rfl (hb hby d12_100) rfl (l' := #[.val (.ref (oo 0)), .val (.int (0 : Int32)), .val (.int (0 : Int32)), .val (.int (2 : Int32)), .val (.double (FP.l2d x0)), .second, .val (.int (1 : Int32)), .val (.int (1 : Int32))]) rfl ?_
      refine XS.iconst X109.here hx rfl (hb hby d12_102) ?_
      show Steps p.tables e below (T109.setTop (mkF m 103 #[.val (.ref (oo 0)), .val (.int (0 : Int32)), .val (.int (0 : Int32)), .val (.int (2 : Int32)), .val (.double (FP.l2d x0)), .second, .val (.int (1 : Int32)), .val (.int (1 : Int32))] [(.int (2 : Int32))])) _
      refine XS.iload X109.here hx rfl (hb hby d12_103) rfl ?_
      refine XS.imul X109.here hx rfl (hb hby d12_105) rfl ?_
      show Steps p.tables e below (T109.setTop (mkF m 106 #[.val (.ref (oo 0)), .val (.int (0 : Int32)), .val (.int (0 : Int32)), .val (.int (2 : Int32)), .val (.double (FP.l2d x0)), .second, .val (.int (1 : Int32)), .val (.int (1 : Int32))] [(.int ((2 : Int32) * (1 : Int32)))])) _
      rw [(by decide : ((2 : Int32) * (1 : Int32)) = (2 : Int32))]
      show Steps p.tables e below (T109.setTop (mkF m 106 #[.val (.ref (oo 0)), .val (.int (0 : Int32)), .val (.int (0 : Int32)), .val (.int (2 : Int32)), .val (.double (FP.l2d x0)), .second, .val (.int (1 : Int32)), .val (.int (1 : Int32))] [(.int (2 : Int32))])) _
      refine XS.iconst X109.here hx rfl (hb hby d12_106) ?_
      refine XS.iadd X109.here hx rfl (hb hby d12_107) rfl ?_
      show Steps p.tables e below (T109.setTop (mkF m 108 #[.val (.ref (oo 0)), .val (.int (0 : Int32)), .val (.int (0 : Int32)), .val (.int (2 : Int32)), .val (.double (FP.l2d x0)), .second, .val (.int (1 : Int32)), .val (.int (1 : Int32))] [(.int ((2 : Int32) + (1 : Int32)))])) _
      rw [(by decide : ((2 : Int32) + (1 : Int32)) = (3 : Int32))]
      show Steps p.tables e below (T109.setTop (mkF m 108 #[.val (.ref (oo 0)), .val (.int (0 : Int32)), .val (.int (0 : Int32)), .val (.int (2 : Int32)), .val (.double (FP.l2d x0)), .second, .val (.int (1 : Int32)), .val (.int (1 : Int32))] [(.int (3 : Int32))])) _
      refine XS.istore X109.here hx rfl (hb hby d12_108) rfl (l' := #[.val (.ref (oo 0)), .val (.int (0 : Int32)), .val (.int (0 : Int32)), .val (.int (2 : Int32)), .val (.double (FP.l2d x0)), .second, .val (.int (1 : Int32)), .val (.int (3 : Int32))]) rfl ?_
      refine XS.goto X109.here hx rfl (pc0 := 110) (pc' := 21) rfl (hb hby d12_110) (by decide) (by decide) ?_
      refine XS.iload X109.here hx rfl (hb hby d12_21) rfl ?_
      refine XS.iloadN X109.here hx rfl (hb hby d12_23) rfl ?_
      show Steps p.tables e below (T109.setTop (mkF m 24 #[.val (.ref (oo 0)), .val (.int (0 : Int32)), .val (.int (0 : Int32)), .val (.int (2 : Int32)), .val (.double (FP.l2d x0)), .second, .val (.int (1 : Int32)), .val (.int (3 : Int32))] [(.int (2 : Int32)), (.int (3 : Int32))])) _
      refine XS.icmpYes X109.here hx rfl (pc0 := 24) (pc' := 113) rfl (hb hby d12_24) rfl (flt (by decide)).2.1 (by decide) (by decide) ?_
      show Steps p.tables e below (T109.setTop (mkF m 113 #[.val (.ref (oo 0)), .val (.int (0 : Int32)), .val (.int (0 : Int32)), .val (.int (2 : Int32)), .val (.double (FP.l2d x0)), .second, .val (.int (1 : Int32)), .val (.int (3 : Int32))] [])) _
      refine XS.aloadN X109.here hx rfl (hb hby d12_113) rfl rfl ?_
      exact k
    obtain ⟨T127, X127, e127, st127⟩ := getF X109 hx hZ hown (host := "") (Or.inl (hw _ (List.mem_of_getElem? (i := 19) rfl))) Via.refl e109 f115 (g := (mkF m 114 #[.val (.ref (oo 0)), .val (.int (0 : Int32)), .val (.int (0 : Int32)), .val (.int (2 : Int32)), .val (.double (FP.l2d x0)), .second, .val (.int (1 : Int32)), .val (.int (3 : Int32))] [(.ref (oo 0))])) rfl rfl (hb hby d12_114)
    refine EndsQ.go st127 ?_
    show EndsQ _ _ _ _ _ _ _ (T127.setTop (mkF m 117 #[.val (.ref (oo 0)), .val (.int (0 : Int32)), .val (.int (0 : Int32)), .val (.int (2 : Int32)), .val (.double (FP.l2d x0)), .second, .val (.int (1 : Int32)), .val (.int (3 : Int32))] [(.ref (oo 5))]))
    refine EndsQ.go (b := T127.setTop (mkF m 123 #[.val (.ref (oo 0)), .val (.int (0 : Int32)), .val (.int (0 : Int32)), .val (.int (2 : Int32)), .val (.double (FP.l2d x0)), .second, .val (.int (1 : Int32)), .val (.int (3 : Int32))] [(.double (FP.l2d x0)), (.int (1 : Int32)), (.ref (oo 5))])) (fun t k => ?_) ?_
    · show Steps p.tables e below (T127.setTop (mkF m 117 #[.val (.ref (oo 0)), .val (.int (0 : Int32)), .val (.int (0 : Int32)), .val (.int (2 : Int32)), .val (.double (FP.l2d x0)), .second, .val (.int (1 : Int32)), .val (.int (3 : Int32))] [(.ref (oo 5))])) _
      refine XS.iloadN X127.here hx rfl (hb hby d12_117) rfl ?_
      refine XS.iload X127.here hx rfl (hb hby d12_118) rfl ?_
      refine XS.iadd X127.here hx rfl (hb hby d12_120) rfl ?_
      show Steps p.tables e below (T127.setTop (mkF m 121 #[.val (.ref (oo 0)), .val (.int (0 : Int32)), .val (.int (0 : Int32)), .val (.int (2 : Int32)), .val (.double (FP.l2d x0)), .second, .val (.int (1 : Int32)), .val (.int (3 : Int32))] [(.int ((0 : Int32) + (1 : Int32))), (.ref (oo 5))])) _
      rw [(by decide : ((0 : Int32) + (1 : Int32)) = (1 : Int32))]
      show Steps p.tables e below (T127.setTop (mkF m 121 #[.val (.ref (oo 0)), .val (.int (0 : Int32)), .val (.int (0 : Int32)), .val (.int (2 : Int32)), .val (.double (FP.l2d x0)), .second, .val (.int (1 : Int32)), .val (.int (3 : Int32))] [(.int (1 : Int32)), (.ref (oo 5))])) _
      refine XS.dload X127.here hx rfl (hb hby d12_121) rfl ?_
      exact k
    obtain ⟨cl128, Ar128, q128, S128, M128, H128, G128⟩ := id fa109
    have hin128 : ¬ ((1 : Int32) < 0 ∨ cl128.slots.size ≤ ((1 : Int32)).toNatClampNeg) := inb_of S128 ⟨by decide, by decide⟩
    obtain ⟨T128, h128, X128, e128, W128, st128⟩ := stD X127 hx hZ e127 Ar128 (j := (1 : Int32)) hin128 (g := (mkF m 123 #[.val (.ref (oo 0)), .val (.int (0 : Int32)), .val (.int (0 : Int32)), .val (.int (2 : Int32)), .val (.double (FP.l2d x0)), .second, .val (.int (1 : Int32)), .val (.int (3 : Int32))] [(.double (FP.l2d x0)), (.int (1 : Int32)), (.ref (oo 5))])) rfl rfl (hb hby d12_123)
    have fa128 : Arv Z h128 (oo 5) (kk 5) .double (64 : Int32) [(.double (FP.l2d x1)), (.double (FP.l2d x0)), (.double g2)] (.double (0 : UInt64)) := Arv.set Ar128 q128 S128 M128 H128 G128 rfl W128 1 rfl (Nat.le_of_ble_eq_true rfl)
    have f129 := f110.wr W128
    have f130 := f111.other W128 (Or.inl (hne 0 5 (by decide) (by decide) (by decide)))
    have f131 := f112.other W128 (Or.inl (hne 0 5 (by decide) (by decide) (by decide)))
    have f132 := f113.other W128 (Or.inl (hne 0 5 (by decide) (by decide) (by decide)))
    have f133 := f114.other W128 (Or.inl (hne 0 5 (by decide) (by decide) (by decide)))
    have f134 := f115.other W128 (Or.inl (hne 0 5 (by decide) (by decide) (by decide)))
    have f135 := f116.other W128 (Or.inl (hne 0 5 (by decide) (by decide) (by decide)))
    have f136 := f117.other W128 (Or.inl (hne 0 5 (by decide) (by decide) (by decide)))
    have f137 := f118.other W128 (Or.inl (hne 0 5 (by decide) (by decide) (by decide)))
    have f138 := f119.other W128 (Or.inl (hne 0 5 (by decide) (by decide) (by decide)))
    have f139 := f120.other W128 (hne 1 5 (by decide) (by decide) (by decide))
    have f140 := f121.other W128 (hne 2 5 (by decide) (by decide) (by decide))
    have f141 := f122.other W128 (hne 3 5 (by decide) (by decide) (by decide))
    have f142 := f123.other W128 (hne 4 5 (by decide) (by decide) (by decide))
    have f143 := f124.other W128 (hne 6 5 (by decide) (by decide) (by decide))
    have f144 := f125.other W128 (hne 7 5 (by decide) (by decide) (by decide))
    have f145 := Nat.le_trans f126 (Keep.of_wr W128).1
    have N128 := Fr.snoc X128 N109 (hn 5 (by decide))
    refine EndsQ.go st128 ?_
    show EndsQ _ _ _ _ _ _ _ (T128.setTop (mkF m 124 #[.val (.ref (oo 0)), .val (.int (0 : Int32)), .val (.int (0 : Int32)), .val (.int (2 : Int32)), .val (.double (FP.l2d x0)), .second, .val (.int (1 : Int32)), .val (.int (3 : Int32))] []))
    refine EndsQ.retV X128 hx Bd.notSynchronized Bd.returns (hb hby d12_124) (by decide) (by decide) ?_
    show QSift2 Z oo kk c0 c1 c2 r0 r1 r2 d0 d1 d2 s0 s1 s2 g2 t0 t1 t2 vx cnt sz x0 x1 h0 n0 (none) T128.heap _
    rw [e128]
    have j0 : (if x0 < x1 then x1 else x0) = x1 := if_pos hc74_105
    have j1 : (if x0 < x1 then x0 else x1) = x0 := if_pos hc74_105
    unfold QSift2
    rw [j0, j1]
    exact ⟨rfl, N128, f145, ⟨f129, f130, f131, f132, f133, f134, f135, f136, f137, f138, f139, f140, f141, f142, fa128, f143, f144⟩⟩
  · refine EndsQ.go (b := T103.setTop (mkF m 77 #[.val (.ref (oo 0)), .val (.int (0 : Int32)), .val (.int (0 : Int32)), .val (.int (2 : Int32)), .val (.double (FP.l2d x0)), .second, .val (.int (0 : Int32)), .val (.int (1 : Int32))] [])) (fun t k => ?_) ?_
    · show Steps p.tables e below (T103.setTop (mkF m 74 #[.val (.ref (oo 0)), .val (.int (0 : Int32)), .val (.int (0 : Int32)), .val (.int (2 : Int32)), .val (.double (FP.l2d x0)), .second, .val (.int (0 : Int32)), .val (.int (1 : Int32))] [(.int (lcmpW x1 x0))])) _
      refine XS.ifNo X103.here hx rfl (hb hby d12_74) rfl ((if0 _ _).trans (flt (fun q => hc74_105 ((lw_gt x1 x0).mp q))).2.2.1) ?_
      show Steps p.tables e below (T103.setTop (mkF m 77 #[.val (.ref (oo 0)), .val (.int (0 : Int32)), .val (.int (0 : Int32)), .val (.int (2 : Int32)), .val (.double (FP.l2d x0)), .second, .val (.int (0 : Int32)), .val (.int (1 : Int32))] [])) _
      exact k
    refine EndsQ.go (b := T103.setTop (mkF m 114 #[.val (.ref (oo 0)), .val (.int (0 : Int32)), .val (.int (0 : Int32)), .val (.int (2 : Int32)), .val (.double (FP.l2d x0)), .second, .val (.int (0 : Int32)), .val (.int (1 : Int32))] [(.ref (oo 0))])) (fun t k => ?_) ?_
    · show Steps p.tables e below (T103.setTop (mkF m 77 #[.val (.ref (oo 0)), .val (.int (0 : Int32)), .val (.int (0 : Int32)), .val (.int (2 : Int32)), .val (.double (FP.l2d x0)), .second, .val (.int (0 : Int32)), .val (.int (1 : Int32))] [])) _
      refine XS.goto X103.here hx rfl (pc0 := 77) (pc' := 113) rfl (hb hby d12_77) (by decide) (by decide) ?_
      refine XS.aloadN X103.here hx rfl (hb hby d12_113) rfl rfl ?_
      exact k
    obtain ⟨T146, X146, e146, st146⟩ := getF X103 hx hZ hown (host := "") (Or.inl (hw _ (List.mem_of_getElem? (i := 19) rfl))) Via.refl e103 SF_arranged (g := (mkF m 114 #[.val (.ref (oo 0)), .val (.int (0 : Int32)), .val (.int (0 : Int32)), .val (.int (2 : Int32)), .val (.double (FP.l2d x0)), .second, .val (.int (0 : Int32)), .val (.int (1 : Int32))] [(.ref (oo 0))])) rfl rfl (hb hby d12_114)
    refine EndsQ.go st146 ?_
    show EndsQ _ _ _ _ _ _ _ (T146.setTop (mkF m 117 #[.val (.ref (oo 0)), .val (.int (0 : Int32)), .val (.int (0 : Int32)), .val (.int (2 : Int32)), .val (.double (FP.l2d x0)), .second, .val (.int (0 : Int32)), .val (.int (1 : Int32))] [(.ref (oo 5))]))
    refine EndsQ.go (b := T146.setTop (mkF m 123 #[.val (.ref (oo 0)), .val (.int (0 : Int32)), .val (.int (0 : Int32)), .val (.int (2 : Int32)), .val (.double (FP.l2d x0)), .second, .val (.int (0 : Int32)), .val (.int (1 : Int32))] [(.double (FP.l2d x0)), (.int (0 : Int32)), (.ref (oo 5))])) (fun t k => ?_) ?_
    · show Steps p.tables e below (T146.setTop (mkF m 117 #[.val (.ref (oo 0)), .val (.int (0 : Int32)), .val (.int (0 : Int32)), .val (.int (2 : Int32)), .val (.double (FP.l2d x0)), .second, .val (.int (0 : Int32)), .val (.int (1 : Int32))] [(.ref (oo 5))])) _
      refine XS.iloadN X146.here hx rfl (hb hby d12_117) rfl ?_
      show Steps p.tables e below (T146.setTop (mkF m 118 #[.val (.ref (oo 0)), .val (.int (0 : Int32)), .val (.int (0 : Int32)), .val (.int (2 : Int32)), .val (.double (FP.l2d x0)), .second, .val (.int (0 : Int32)), .val (.int (1 : Int32))] [(.int (0 : Int32)), (.ref (oo 5))])) _
      refine XS.iload X146.here hx rfl (hb hby d12_118) rfl ?_
      refine XS.iadd X146.here hx rfl (hb hby d12_120) rfl ?_
      show Steps p.tables e below (T146.setTop (mkF m 121 #[.val (.ref (oo 0)), .val (.int (0 : Int32)), .val (.int (0 : Int32)), .val (.int (2 : Int32)), .val (.double (FP.l2d x0)), .second, .val (.int (0 : Int32)), .val (.int (1 : Int32))] [(.int ((0 : Int32) + (0 : Int32))), (.ref (oo 5))])) _
      rw [(by decide : ((0 : Int32) + (0 : Int32)) = (0 : Int32))]
      show Steps p.tables e below (T146.setTop (mkF m 121 #[.val (.ref (oo 0)), .val (.int (0 : Int32)), .val (.int (0 : Int32)), .val (.int (2 : Int32)), .val (.double (FP.l2d x0)), .second, .val (.int (0 : Int32)), .val (.int (1 : Int32))] [(.int (0 : Int32)), (.ref (oo 5))])) _
      refine XS.dload X146.here hx rfl (hb hby d12_121) rfl ?_
      exact k
    obtain ⟨cl147, Ar147, q147, S147, M147, H147, G147⟩ := id SA_5
    have hin147 : ¬ ((0 : Int32) < 0 ∨ cl147.slots.size ≤ ((0 : Int32)).toNatClampNeg) := inb_of S147 ⟨by decide, by decide⟩
    obtain ⟨T147, h147, X147, e147, W147, st147⟩ := stD X146 hx hZ e146 Ar147 (j := (0 : Int32)) hin147 (g := (mkF m 123 #[.val (.ref (oo 0)), .val (.int (0 : Int32)), .val (.int (0 : Int32)), .val (.int (2 : Int32)), .val (.double (FP.l2d x0)), .second, .val (.int (0 : Int32)), .val (.int (1 : Int32))] [(.double (FP.l2d x0)), (.int (0 : Int32)), (.ref (oo 5))])) rfl rfl (hb hby d12_123)
    have fa147 : Arv Z h147 (oo 5) (kk 5) .double (64 : Int32) [(.double (FP.l2d x0)), (.double (FP.l2d x1)), (.double g2)] (.double (0 : UInt64)) := Arv.set Ar147 q147 S147 M147 H147 G147 rfl W147 0 rfl (Nat.le_of_ble_eq_true rfl)
    have f148 := SE.wr W147
    have f149 := SF_candidates.other W147 (Or.inl (hne 0 5 (by decide) (by decide) (by decide)))
    have f150 := SF_proposed.other W147 (Or.inl (hne 0 5 (by decide) (by decide) (by decide)))
    have f151 := SF_confidences.other W147 (Or.inl (hne 0 5 (by decide) (by decide) (by decide)))
    have f152 := SF_starts.other W147 (Or.inl (hne 0 5 (by decide) (by decide) (by decide)))
    have f153 := SF_arranged.other W147 (Or.inl (hne 0 5 (by decide) (by decide) (by decide)))
    have f154 := SF_taken.other W147 (Or.inl (hne 0 5 (by decide) (by decide) (by decide)))
    have f155 := SF_indices.other W147 (Or.inl (hne 0 5 (by decide) (by decide) (by decide)))
    have f156 := SF_cnt.other W147 (Or.inl (hne 0 5 (by decide) (by decide) (by decide)))
    have f157 := SF_sz.other W147 (Or.inl (hne 0 5 (by decide) (by decide) (by decide)))
    have f158 := SA_1.other W147 (hne 1 5 (by decide) (by decide) (by decide))
    have f159 := SA_2.other W147 (hne 2 5 (by decide) (by decide) (by decide))
    have f160 := SA_3.other W147 (hne 3 5 (by decide) (by decide) (by decide))
    have f161 := SA_4.other W147 (hne 4 5 (by decide) (by decide) (by decide))
    have f162 := SA_6.other W147 (hne 6 5 (by decide) (by decide) (by decide))
    have f163 := SA_7.other W147 (hne 7 5 (by decide) (by decide) (by decide))
    have f164 := Nat.le_trans Z0 (Keep.of_wr W147).1
    have N147 := Fr.snoc X147 N0 (hn 5 (by decide))
    refine EndsQ.go st147 ?_
    show EndsQ _ _ _ _ _ _ _ (T147.setTop (mkF m 124 #[.val (.ref (oo 0)), .val (.int (0 : Int32)), .val (.int (0 : Int32)), .val (.int (2 : Int32)), .val (.double (FP.l2d x0)), .second, .val (.int (0 : Int32)), .val (.int (1 : Int32))] []))
    refine EndsQ.retV X147 hx Bd.notSynchronized Bd.returns (hb hby d12_124) (by decide) (by decide) ?_
    show QSift2 Z oo kk c0 c1 c2 r0 r1 r2 d0 d1 d2 s0 s1 s2 g2 t0 t1 t2 vx cnt sz x0 x1 h0 n0 (none) T147.heap _
    rw [e147]
    have j0 : (if x0 < x1 then x1 else x0) = x0 := if_neg hc74_105
    have j1 : (if x0 < x1 then x0 else x1) = x1 := if_neg hc74_105
    unfold QSift2
    rw [j0, j1]
    exact ⟨rfl, N147, f164, ⟨f148, f149, f150, f151, f152, f153, f154, f155, f156, f157, f158, f159, f160, f161, fa147, f162, f163⟩⟩
theorem ef_Arr1 (m : MethodId) (x0 : Addr) : entryFrame m #[(.ref x0)] 4 = mkF m 0 #[.val (.ref x0), .unset, .unset, .unset] [] := by first | (simp [entryFrame, mkF, argsToLocals, Value.category]; done) | rfl
def QArr1 (Z : State) (oo : Nat → Addr) (kk : Nat → ClassId) (c0 : Int32) (c1 : Int32) (c2 : Int32) (r2 : Int32) (d2 : UInt64) (s1 : Int32) (s2 : Int32) (g0 : UInt64) (g1 : UInt64) (g2 : UInt64) (t0 : Int32) (t1 : Int32) (t2 : Int32) (vx : List Value) (x0 : Int64) (x1 : Int64) (h0 : Heap) (n0 : Nat) (v : Option Value) (h : Heap) (L : List Loc) : Prop := v = none ∧ Fr n0 L ∧ n0 ≤ h.size ∧ own_St Z h oo kk (1 : Int32) (2 : Int32) [(.int c0), (.int c1), (.int c2)] [(.int (0 : Int32)), (.int (0 : Int32)), (.int r2)] [(.double (FP.l2d x0)), (.double (FP.l2d x1)), (.double d2)] [(.int (0 : Int32)), (.int (2 : Int32)), (.int s2)] [(.double (FP.l2d (if x0 < x1 then x1 else x0))), (.double (FP.l2d (if x0 < x1 then x0 else x1))), (.double g2)] [(.int (0 : Int32)), (.int t1), (.int t2)] vx
set_option maxRecDepth 65536 in
set_option maxHeartbeats 40000000 in
theorem rmArr1 (l : Launch) (Z : State) (a0 : Array Value) (hw : ∀ d ∈ tables_1, d.before a0 Z = true) (ws : List Jvm.Cond) (oo : Nat → Addr) (kk : Nat → ClassId) (c0 : Int32) (c1 : Int32) (c2 : Int32) (r2 : Int32) (d2 : UInt64) (s1 : Int32) (s2 : Int32) (g0 : UInt64) (g1 : UInt64) (g2 : UInt64) (t0 : Int32) (t1 : Int32) (t2 : Int32) (vx : List Value) (x0 : Int64) (x1 : Int64) (h0 : Heap) (n0 : Nat) (Z0 : n0 ≤ h0.size) (hne : own_ne oo) (hn : own_nn n0 oo) (HS : own_St Z h0 oo kk (1 : Int32) (2 : Int32) [(.int c0), (.int c1), (.int c2)] [(.int (0 : Int32)), (.int (0 : Int32)), (.int r2)] [(.double (FP.l2d x0)), (.double (FP.l2d x1)), (.double d2)] [(.int (2 : Int32)), (.int s1), (.int s2)] [(.double g0), (.double g1), (.double g2)] [(.int t0), (.int t1), (.int t2)] vx) (hx0 : B53 x0) (hx1 : B53 x1) :
    MetFree l (⟨"com/example/physarum/physarum/Proposals", "arrange", "()V"⟩ : MethodName) (head1 (Jvm.Cond.code (⟨"com/example/physarum/physarum/Proposals", "arrange", "()V"⟩ : MethodName) prog_44_method_4_code 4 none :: ws) ({ frames := 1, cells := 0, slots := 0, locals := 40 } : Room)) (fun a U => a = #[(.ref (oo 0))] ∧ Z.Warmed39 U.vm ∧ U.heap = h0) (fun _ _ _ _ _ => True) (fun _ U o U' => ∃ v L, o = .returned v ∧ QArr1 Z oo kk c0 c1 c2 r2 d2 s1 s2 g0 g1 g2 t0 t1 t2 vx x0 x1 h0 n0 v U'.heap L ∧ FrameEnd U o U' L ({ frames := 1, cells := 0, slots := 0, locals := 40 } : Room).cells ({ frames := 1, cells := 0, slots := 0, locals := 40 } : Room).slots) := by
  refine MetFree.of_bodySF (plainFor_of_name pn_6) hisR ?_
  intro p e s m args below meth c s₁ Bd hml0 hP hK
  obtain ⟨rfl, hZ, hh⟩ := hP
  have hx := Bd.exec
  have hby := Bd.bytes
  have hml : c.maxLocals = 4 := hml0
  have hown : s.vm.findClass "com/example/physarum/physarum/Proposals" = some m.cls := findClass_of_methodNamed Bd.named
  have hnm := (name_of_methodNamed Bd.named Bd.method).1
  have X0 : Stand p l e ({ frames := 1, cells := 0, slots := 0, locals := 40 } : Room) s m #[(.ref (oo 0))] below meth c s₁ [] 0 0 := Stand.of_body Bd
  have e0 : s₁.heap = h0 := by rw [← hh, Bd.state]; rfl
  have N0 := Fr.nil n0
  show EndsQ p.tables e below s (fun v h L => QArr1 Z oo kk c0 c1 c2 r2 d2 s1 s2 g0 g1 g2 t0 t1 t2 vx x0 x1 h0 n0 v h L) ({ frames := 1, cells := 0, slots := 0, locals := 40 } : Room).cells ({ frames := 1, cells := 0, slots := 0, locals := 40 } : Room).slots _
  refine EndsQ.go (b := s₁.setTop (mkF m 0 #[.val (.ref (oo 0)), .unset, .unset, .unset] [])) (fun t k => castTop (ef_Arr1 m (oo 0)) k) ?_
  have HS0 := HS
  obtain ⟨SE, SF_candidates, SF_proposed, SF_confidences, SF_starts, SF_arranged, SF_taken, SF_indices, SF_cnt, SF_sz, SA_1, SA_2, SA_3, SA_4, SA_5, SA_6, SA_7⟩ := HS
  refine EndsQ.go (b := s₁.setTop (mkF m 1 #[.val (.ref (oo 0)), .unset, .unset, .unset] [(.ref (oo 0))])) (fun t k => ?_) ?_
  · show Steps p.tables e below (s₁.setTop (mkF m 0 #[.val (.ref (oo 0)), .unset, .unset, .unset] [])) _
    refine XS.aloadN X0.here hx rfl (hb hby d6_0) rfl rfl ?_
    exact k
  obtain ⟨T101, X101, e101, st101⟩ := getF X0 hx hZ hown (host := "") (Or.inl (hw _ (List.mem_of_getElem? (i := 19) rfl))) Via.refl e0 SF_arranged (g := (mkF m 1 #[.val (.ref (oo 0)), .unset, .unset, .unset] [(.ref (oo 0))])) rfl rfl (hb hby d6_1)
  refine EndsQ.go st101 ?_
  show EndsQ _ _ _ _ _ _ _ (T101.setTop (mkF m 4 #[.val (.ref (oo 0)), .unset, .unset, .unset] [(.ref (oo 5))]))
  obtain ⟨cl102, Ar102, -, S102, M102, -, -⟩ := id SA_5
  refine EndsQ.go (fun t k => X101.arraylength hx (by rw [e101]; exact Ar102.1) (State.isArrayOf_alike hZ.alike Ar102.2.1) (g := (mkF m 4 #[.val (.ref (oo 0)), .unset, .unset, .unset] [(.ref (oo 5))])) rfl rfl (hb hby d6_4) _ k) ?_
  rw [len_of S102 M102]
  show EndsQ _ _ _ _ _ _ _ (T101.setTop (mkF m 5 #[.val (.ref (oo 0)), .unset, .unset, .unset] [(.int (64 : Int32))]))
  refine EndsQ.go (b := T101.setTop (mkF m 6 #[.val (.ref (oo 0)), .unset, .unset, .unset] [(.ref (oo 0)), (.int (64 : Int32))])) (fun t k => ?_) ?_
  · show Steps p.tables e below (T101.setTop (mkF m 5 #[.val (.ref (oo 0)), .unset, .unset, .unset] [(.int (64 : Int32))])) _
    refine XS.aloadN X101.here hx rfl (hb hby d6_5) rfl rfl ?_
    exact k
  obtain ⟨T103, X103, e103, st103⟩ := getF X101 hx hZ hown (host := "") (Or.inl (hw _ (List.mem_of_getElem? (i := 35) rfl))) Via.refl e101 SF_sz (g := (mkF m 6 #[.val (.ref (oo 0)), .unset, .unset, .unset] [(.ref (oo 0)), (.int (64 : Int32))])) rfl rfl (hb hby d6_6)
  refine EndsQ.go st103 ?_
  show EndsQ _ _ _ _ _ _ _ (T103.setTop (mkF m 9 #[.val (.ref (oo 0)), .unset, .unset, .unset] [(.int (2 : Int32)), (.int (64 : Int32))]))
  refine EndsQ.go (b := T103.setTop (mkF m 29 #[.val (.ref (oo 0)), .val (.int (0 : Int32)), .val (.int (0 : Int32)), .unset] [(.ref (oo 0)), (.int (0 : Int32))])) (fun t k => ?_) ?_
  · show Steps p.tables e below (T103.setTop (mkF m 9 #[.val (.ref (oo 0)), .unset, .unset, .unset] [(.int (2 : Int32)), (.int (64 : Int32))])) _
    refine XS.icmpYes X103.here hx rfl (pc0 := 9) (pc' := 23) rfl (hb hby d6_9) rfl (flt (by decide)).2.1 (by decide) (by decide) ?_
    show Steps p.tables e below (T103.setTop (mkF m 23 #[.val (.ref (oo 0)), .unset, .unset, .unset] [])) _
    refine XS.iconst X103.here hx rfl (hb hby d6_23) ?_
    refine XS.istoreN X103.here hx rfl (hb hby d6_24) rfl (l' := #[.val (.ref (oo 0)), .val (.int (0 : Int32)), .unset, .unset]) rfl ?_
    show Steps p.tables e below (T103.setTop (mkF m 25 #[.val (.ref (oo 0)), .val (.int (0 : Int32)), .unset, .unset] [])) _
    refine XS.iconst X103.here hx rfl (hb hby d6_25) ?_
    refine XS.istoreN X103.here hx rfl (hb hby d6_26) rfl (l' := #[.val (.ref (oo 0)), .val (.int (0 : Int32)), .val (.int (0 : Int32)), .unset]) rfl ?_
    refine XS.iloadN X103.here hx rfl (hb hby d6_27) rfl ?_
    refine XS.aloadN X103.here hx rfl (hb hby d6_28) rfl rfl ?_
    show Steps p.tables e below (T103.setTop (mkF m 29 #[.val (.ref (oo 0)), .val (.int (0 : Int32)), .val (.int (0 : Int32)), .unset] [(.ref (oo 0)), (.int (0 : Int32))])) _
    exact k
  obtain ⟨T104, X104, e104, st104⟩ := getF X103 hx hZ hown (host := "") (Or.inl (hw _ (List.mem_of_getElem? (i := 37) rfl))) Via.refl e103 SF_cnt (g := (mkF m 29 #[.val (.ref (oo 0)), .val (.int (0 : Int32)), .val (.int (0 : Int32)), .unset] [(.ref (oo 0)), (.int (0 : Int32))])) rfl rfl (hb hby d6_29)
  refine EndsQ.go st104 ?_
  show EndsQ _ _ _ _ _ _ _ (T104.setTop (mkF m 32 #[.val (.ref (oo 0)), .val (.int (0 : Int32)), .val (.int (0 : Int32)), .unset] [(.int (1 : Int32)), (.int (0 : Int32))]))
  refine EndsQ.go (b := T104.setTop (mkF m 36 #[.val (.ref (oo 0)), .val (.int (0 : Int32)), .val (.int (0 : Int32)), .unset] [(.ref (oo 0))])) (fun t k => ?_) ?_
  · show Steps p.tables e below (T104.setTop (mkF m 32 #[.val (.ref (oo 0)), .val (.int (0 : Int32)), .val (.int (0 : Int32)), .unset] [(.int (1 : Int32)), (.int (0 : Int32))])) _
    refine XS.icmpNo X104.here hx rfl (hb hby d6_32) rfl (tlt (by decide)).2.1 ?_
    show Steps p.tables e below (T104.setTop (mkF m 35 #[.val (.ref (oo 0)), .val (.int (0 : Int32)), .val (.int (0 : Int32)), .unset] [])) _
    refine XS.aloadN X104.here hx rfl (hb hby d6_35) rfl rfl ?_
    exact k
  obtain ⟨T105, X105, e105, st105⟩ := getF X104 hx hZ hown (host := "") (Or.inl (hw _ (List.mem_of_getElem? (i := 17) rfl))) Via.refl e104 SF_starts (g := (mkF m 36 #[.val (.ref (oo 0)), .val (.int (0 : Int32)), .val (.int (0 : Int32)), .unset] [(.ref (oo 0))])) rfl rfl (hb hby d6_36)
  refine EndsQ.go st105 ?_
  show EndsQ _ _ _ _ _ _ _ (T105.setTop (mkF m 39 #[.val (.ref (oo 0)), .val (.int (0 : Int32)), .val (.int (0 : Int32)), .unset] [(.ref (oo 4))]))
  refine EndsQ.go (b := T105.setTop (mkF m 40 #[.val (.ref (oo 0)), .val (.int (0 : Int32)), .val (.int (0 : Int32)), .unset] [(.int (0 : Int32)), (.ref (oo 4))])) (fun t k => ?_) ?_
  · show Steps p.tables e below (T105.setTop (mkF m 39 #[.val (.ref (oo 0)), .val (.int (0 : Int32)), .val (.int (0 : Int32)), .unset] [(.ref (oo 4))])) _
    refine XS.iloadN X105.here hx rfl (hb hby d6_39) rfl ?_
    exact k
  obtain ⟨cl106, Ar106, q106, S106, M106, H106, G106⟩ := id SA_4
  have hin106 : ¬ ((0 : Int32) < 0 ∨ cl106.slots.size ≤ ((0 : Int32)).toNatClampNeg) := inb_of S106 ⟨by decide, by decide⟩
  have hat106 : cl106.slots[((0 : Int32)).toNatClampNeg]? = some (.int (2 : Int32)) := Has.at H106 hin106 rfl
  refine EndsQ.go (fun t k => X105.iaload hx (j := (0 : Int32)) (v := (.int (2 : Int32))) (by rw [e105]; exact Ar106.1) (State.isArrayOf_alike hZ.alike Ar106.2.1) Ar106.2.2 hin106 hat106 (g := (mkF m 40 #[.val (.ref (oo 0)), .val (.int (0 : Int32)), .val (.int (0 : Int32)), .unset] [(.int (0 : Int32)), (.ref (oo 4))])) rfl rfl (hb hby d6_40) _ k) ?_
  show EndsQ _ _ _ _ _ _ _ (T105.setTop (mkF m 41 #[.val (.ref (oo 0)), .val (.int (0 : Int32)), .val (.int (0 : Int32)), .unset] [(.int (2 : Int32))]))
  refine EndsQ.go (b := T105.setTop (mkF m 43 #[.val (.ref (oo 0)), .val (.int (0 : Int32)), .val (.int (0 : Int32)), .val (.int (2 : Int32))] [(.ref (oo 0))])) (fun t k => ?_) ?_
  · show Steps p.tables e below (T105.setTop (mkF m 41 #[.val (.ref (oo 0)), .val (.int (0 : Int32)), .val (.int (0 : Int32)), .unset] [(.int (2 : Int32))])) _
    refine XS.istoreN X105.here hx rfl (hb hby d6_41) rfl (l' := #[.val (.ref (oo 0)), .val (.int (0 : Int32)), .val (.int (0 : Int32)), .val (.int (2 : Int32))]) rfl ?_
    refine XS.aloadN X105.here hx rfl (hb hby d6_42) rfl rfl ?_
    show Steps p.tables e below (T105.setTop (mkF m 43 #[.val (.ref (oo 0)), .val (.int (0 : Int32)), .val (.int (0 : Int32)), .val (.int (2 : Int32))] [(.ref (oo 0))])) _
    exact k
  obtain ⟨T107, X107, e107, st107⟩ := getF X105 hx hZ hown (host := "") (Or.inl (hw _ (List.mem_of_getElem? (i := 17) rfl))) Via.refl e105 SF_starts (g := (mkF m 43 #[.val (.ref (oo 0)), .val (.int (0 : Int32)), .val (.int (0 : Int32)), .val (.int (2 : Int32))] [(.ref (oo 0))])) rfl rfl (hb hby d6_43)
  refine EndsQ.go st107 ?_
  show EndsQ _ _ _ _ _ _ _ (T107.setTop (mkF m 46 #[.val (.ref (oo 0)), .val (.int (0 : Int32)), .val (.int (0 : Int32)), .val (.int (2 : Int32))] [(.ref (oo 4))]))
  refine EndsQ.go (b := T107.setTop (mkF m 48 #[.val (.ref (oo 0)), .val (.int (0 : Int32)), .val (.int (0 : Int32)), .val (.int (2 : Int32))] [(.int (0 : Int32)), (.int (0 : Int32)), (.ref (oo 4))])) (fun t k => ?_) ?_
  · show Steps p.tables e below (T107.setTop (mkF m 46 #[.val (.ref (oo 0)), .val (.int (0 : Int32)), .val (.int (0 : Int32)), .val (.int (2 : Int32))] [(.ref (oo 4))])) _
    refine XS.iloadN X107.here hx rfl (hb hby d6_46) rfl ?_
    refine XS.iloadN X107.here hx rfl (hb hby d6_47) rfl ?_
    exact k
  obtain ⟨cl108, Ar108, q108, S108, M108, H108, G108⟩ := id SA_4
  have hin108 : ¬ ((0 : Int32) < 0 ∨ cl108.slots.size ≤ ((0 : Int32)).toNatClampNeg) := inb_of S108 ⟨by decide, by decide⟩
  obtain ⟨T108, h108, X108, e108, W108, st108⟩ := stI X107 hx hZ e107 Ar108 (j := (0 : Int32)) hin108 (g := (mkF m 48 #[.val (.ref (oo 0)), .val (.int (0 : Int32)), .val (.int (0 : Int32)), .val (.int (2 : Int32))] [(.int (0 : Int32)), (.int (0 : Int32)), (.ref (oo 4))])) rfl rfl (hb hby d6_48)
  have fa108 : Arv Z h108 (oo 4) (kk 4) .int (17 : Int32) [(.int (0 : Int32)), (.int s1), (.int s2)] (.int (0 : Int32)) := Arv.set Ar108 q108 S108 M108 H108 G108 rfl W108 0 rfl (Nat.le_of_ble_eq_true rfl)
  have f109 := SE.wr W108
  have f110 := SF_candidates.other W108 (Or.inl (hne 0 4 (by decide) (by decide) (by decide)))
  have f111 := SF_proposed.other W108 (Or.inl (hne 0 4 (by decide) (by decide) (by decide)))
  have f112 := SF_confidences.other W108 (Or.inl (hne 0 4 (by decide) (by decide) (by decide)))
  have f113 := SF_starts.other W108 (Or.inl (hne 0 4 (by decide) (by decide) (by decide)))
  have f114 := SF_arranged.other W108 (Or.inl (hne 0 4 (by decide) (by decide) (by decide)))
  have f115 := SF_taken.other W108 (Or.inl (hne 0 4 (by decide) (by decide) (by decide)))
  have f116 := SF_indices.other W108 (Or.inl (hne 0 4 (by decide) (by decide) (by decide)))
  have f117 := SF_cnt.other W108 (Or.inl (hne 0 4 (by decide) (by decide) (by decide)))
  have f118 := SF_sz.other W108 (Or.inl (hne 0 4 (by decide) (by decide) (by decide)))
  have f119 := SA_1.other W108 (hne 1 4 (by decide) (by decide) (by decide))
  have f120 := SA_2.other W108 (hne 2 4 (by decide) (by decide) (by decide))
  have f121 := SA_3.other W108 (hne 3 4 (by decide) (by decide) (by decide))
  have f122 := SA_5.other W108 (hne 5 4 (by decide) (by decide) (by decide))
  have f123 := SA_6.other W108 (hne 6 4 (by decide) (by decide) (by decide))
  have f124 := SA_7.other W108 (hne 7 4 (by decide) (by decide) (by decide))
  have f125 := Nat.le_trans Z0 (Keep.of_wr W108).1
  have N108 := Fr.snoc X108 N0 (hn 4 (by decide))
  refine EndsQ.go st108 ?_
  show EndsQ _ _ _ _ _ _ _ (T108.setTop (mkF m 49 #[.val (.ref (oo 0)), .val (.int (0 : Int32)), .val (.int (0 : Int32)), .val (.int (2 : Int32))] []))
  refine EndsQ.go (b := T108.setTop (mkF m 50 #[.val (.ref (oo 0)), .val (.int (0 : Int32)), .val (.int (0 : Int32)), .val (.int (2 : Int32))] [(.ref (oo 0))])) (fun t k => ?_) ?_
  · show Steps p.tables e below (T108.setTop (mkF m 49 #[.val (.ref (oo 0)), .val (.int (0 : Int32)), .val (.int (0 : Int32)), .val (.int (2 : Int32))] [])) _
    refine XS.aloadN X108.here hx rfl (hb hby d6_49) rfl rfl ?_
    exact k
  obtain ⟨T126, X126, e126, st126⟩ := getF X108 hx hZ hown (host := "") (Or.inl (hw _ (List.mem_of_getElem? (i := 21) rfl))) Via.refl e108 f115 (g := (mkF m 50 #[.val (.ref (oo 0)), .val (.int (0 : Int32)), .val (.int (0 : Int32)), .val (.int (2 : Int32))] [(.ref (oo 0))])) rfl rfl (hb hby d6_50)
  refine EndsQ.go st126 ?_
  show EndsQ _ _ _ _ _ _ _ (T126.setTop (mkF m 53 #[.val (.ref (oo 0)), .val (.int (0 : Int32)), .val (.int (0 : Int32)), .val (.int (2 : Int32))] [(.ref (oo 6))]))
  refine EndsQ.go (b := T126.setTop (mkF m 55 #[.val (.ref (oo 0)), .val (.int (0 : Int32)), .val (.int (0 : Int32)), .val (.int (2 : Int32))] [(.int (0 : Int32)), (.int (0 : Int32)), (.ref (oo 6))])) (fun t k => ?_) ?_
  · show Steps p.tables e below (T126.setTop (mkF m 53 #[.val (.ref (oo 0)), .val (.int (0 : Int32)), .val (.int (0 : Int32)), .val (.int (2 : Int32))] [(.ref (oo 6))])) _
    refine XS.iloadN X126.here hx rfl (hb hby d6_53) rfl ?_
    show Steps p.tables e below (T126.setTop (mkF m 54 #[.val (.ref (oo 0)), .val (.int (0 : Int32)), .val (.int (0 : Int32)), .val (.int (2 : Int32))] [(.int (0 : Int32)), (.ref (oo 6))])) _
    refine XS.iloadN X126.here hx rfl (hb hby d6_54) rfl ?_
    exact k
  obtain ⟨cl127, Ar127, q127, S127, M127, H127, G127⟩ := id f123
  have hin127 : ¬ ((0 : Int32) < 0 ∨ cl127.slots.size ≤ ((0 : Int32)).toNatClampNeg) := inb_of S127 ⟨by decide, by decide⟩
  obtain ⟨T127, h127, X127, e127, W127, st127⟩ := stI X126 hx hZ e126 Ar127 (j := (0 : Int32)) hin127 (g := (mkF m 55 #[.val (.ref (oo 0)), .val (.int (0 : Int32)), .val (.int (0 : Int32)), .val (.int (2 : Int32))] [(.int (0 : Int32)), (.int (0 : Int32)), (.ref (oo 6))])) rfl rfl (hb hby d6_55)
  have fa127 : Arv Z h127 (oo 6) (kk 6) .int (16 : Int32) [(.int (0 : Int32)), (.int t1), (.int t2)] (.int (0 : Int32)) := Arv.set Ar127 q127 S127 M127 H127 G127 rfl W127 0 rfl (Nat.le_of_ble_eq_true rfl)
  have f128 := f109.wr W127
  have f129 := f110.other W127 (Or.inl (hne 0 6 (by decide) (by decide) (by decide)))
  have f130 := f111.other W127 (Or.inl (hne 0 6 (by decide) (by decide) (by decide)))
  have f131 := f112.other W127 (Or.inl (hne 0 6 (by decide) (by decide) (by decide)))
  have f132 := f113.other W127 (Or.inl (hne 0 6 (by decide) (by decide) (by decide)))
  have f133 := f114.other W127 (Or.inl (hne 0 6 (by decide) (by decide) (by decide)))
  have f134 := f115.other W127 (Or.inl (hne 0 6 (by decide) (by decide) (by decide)))
  have f135 := f116.other W127 (Or.inl (hne 0 6 (by decide) (by decide) (by decide)))
  have f136 := f117.other W127 (Or.inl (hne 0 6 (by decide) (by decide) (by decide)))
  have f137 := f118.other W127 (Or.inl (hne 0 6 (by decide) (by decide) (by decide)))
  have f138 := f119.other W127 (hne 1 6 (by decide) (by decide) (by decide))
  have f139 := f120.other W127 (hne 2 6 (by decide) (by decide) (by decide))
  have f140 := f121.other W127 (hne 3 6 (by decide) (by decide) (by decide))
  have f141 := f122.other W127 (hne 5 6 (by decide) (by decide) (by decide))
  have f142 := f124.other W127 (hne 7 6 (by decide) (by decide) (by decide))
  have f143 := Nat.le_trans f125 (Keep.of_wr W127).1
  have f144 := fa108.other W127 (hne 4 6 (by decide) (by decide) (by decide))
  have N127 := Fr.snoc X127 N108 (hn 6 (by decide))
  refine EndsQ.go st127 ?_
  show EndsQ _ _ _ _ _ _ _ (T127.setTop (mkF m 56 #[.val (.ref (oo 0)), .val (.int (0 : Int32)), .val (.int (0 : Int32)), .val (.int (2 : Int32))] []))
  refine EndsQ.go (b := T127.setTop (mkF m 29 #[.val (.ref (oo 0)), .val (.int (2 : Int32)), .val (.int (1 : Int32)), .val (.int (2 : Int32))] [(.ref (oo 0)), (.int (1 : Int32))])) (fun t k => ?_) ?_
  · show Steps p.tables e below (T127.setTop (mkF m 56 #[.val (.ref (oo 0)), .val (.int (0 : Int32)), .val (.int (0 : Int32)), .val (.int (2 : Int32))] [])) _
    refine XS.iloadN X127.here hx rfl (hb hby d6_56) rfl ?_
    refine XS.iloadN X127.here hx rfl (hb hby d6_57) rfl ?_
    refine XS.iadd X127.here hx rfl (hb hby d6_58) rfl ?_
    show Steps p.tables e below (T127.setTop (mkF m 59 #[.val (.ref (oo 0)), .val (.int (0 : Int32)), .val (.int (0 : Int32)), .val (.int (2 : Int32))] [(.int ((0 : Int32) + (2 : Int32)))])) _
    rw [(by decide : ((0 : Int32) + (2 : Int32)) = (2 : Int32))]
    show Steps p.tables e below (T127.setTop (mkF m 59 #[.val (.ref (oo 0)), .val (.int (0 : Int32)), .val (.int (0 : Int32)), .val (.int (2 : Int32))] [(.int (2 : Int32))])) _
    refine XS.istoreN X127.here hx rfl (hb hby d6_59) rfl (l' := #[.val (.ref (oo 0)), .val (.int (2 : Int32)), .val (.int (0 : Int32)), .val (.int (2 : Int32))]) rfl ?_
    refine XS.iinc X127.here hx rfl (hb hby d6_60) rfl (l' := #[.val (.ref (oo 0)), .val (.int (2 : Int32)), .val (.int ((0 : Int32) + Int32.ofInt 1)), .val (.int (2 : Int32))]) rfl ?_
    show Steps p.tables e below (T127.setTop (mkF m 63 #[.val (.ref (oo 0)), .val (.int (2 : Int32)), .val (.int ((0 : Int32) + Int32.ofInt 1)), .val (.int (2 : Int32))] [])) _
    rw [(by decide : ((0 : Int32) + Int32.ofInt 1) = (1 : Int32))]
    show Steps p.tables e below (T127.setTop (mkF m 63 #[.val (.ref (oo 0)), .val (.int (2 : Int32)), .val (.int (1 : Int32)), .val (.int (2 : Int32))] [])) _
    refine XS.goto X127.here hx rfl (pc0 := 63) (pc' := 27) rfl (hb hby d6_63) (by decide) (by decide) ?_
    refine XS.iloadN X127.here hx rfl (hb hby d6_27) rfl ?_
    show Steps p.tables e below (T127.setTop (mkF m 28 #[.val (.ref (oo 0)), .val (.int (2 : Int32)), .val (.int (1 : Int32)), .val (.int (2 : Int32))] [(.int (1 : Int32))])) _
    refine XS.aloadN X127.here hx rfl (hb hby d6_28) rfl rfl ?_
    exact k
  obtain ⟨T145, X145, e145, st145⟩ := getF X127 hx hZ hown (host := "") (Or.inl (hw _ (List.mem_of_getElem? (i := 37) rfl))) Via.refl e127 f136 (g := (mkF m 29 #[.val (.ref (oo 0)), .val (.int (2 : Int32)), .val (.int (1 : Int32)), .val (.int (2 : Int32))] [(.ref (oo 0)), (.int (1 : Int32))])) rfl rfl (hb hby d6_29)
  refine EndsQ.go st145 ?_
  show EndsQ _ _ _ _ _ _ _ (T145.setTop (mkF m 32 #[.val (.ref (oo 0)), .val (.int (2 : Int32)), .val (.int (1 : Int32)), .val (.int (2 : Int32))] [(.int (1 : Int32)), (.int (1 : Int32))]))
  refine EndsQ.go (b := T145.setTop (mkF m 67 #[.val (.ref (oo 0)), .val (.int (2 : Int32)), .val (.int (1 : Int32)), .val (.int (2 : Int32))] [(.ref (oo 0))])) (fun t k => ?_) ?_
  · show Steps p.tables e below (T145.setTop (mkF m 32 #[.val (.ref (oo 0)), .val (.int (2 : Int32)), .val (.int (1 : Int32)), .val (.int (2 : Int32))] [(.int (1 : Int32)), (.int (1 : Int32))])) _
    refine XS.icmpYes X145.here hx rfl (pc0 := 32) (pc' := 66) rfl (hb hby d6_32) rfl (flt (by decide)).2.1 (by decide) (by decide) ?_
    show Steps p.tables e below (T145.setTop (mkF m 66 #[.val (.ref (oo 0)), .val (.int (2 : Int32)), .val (.int (1 : Int32)), .val (.int (2 : Int32))] [])) _
    refine XS.aloadN X145.here hx rfl (hb hby d6_66) rfl rfl ?_
    exact k
  obtain ⟨T146, X146, e146, st146⟩ := getF X145 hx hZ hown (host := "") (Or.inl (hw _ (List.mem_of_getElem? (i := 17) rfl))) Via.refl e145 f132 (g := (mkF m 67 #[.val (.ref (oo 0)), .val (.int (2 : Int32)), .val (.int (1 : Int32)), .val (.int (2 : Int32))] [(.ref (oo 0))])) rfl rfl (hb hby d6_67)
  refine EndsQ.go st146 ?_
  show EndsQ _ _ _ _ _ _ _ (T146.setTop (mkF m 70 #[.val (.ref (oo 0)), .val (.int (2 : Int32)), .val (.int (1 : Int32)), .val (.int (2 : Int32))] [(.ref (oo 4))]))
  refine EndsQ.go (b := T146.setTop (mkF m 71 #[.val (.ref (oo 0)), .val (.int (2 : Int32)), .val (.int (1 : Int32)), .val (.int (2 : Int32))] [(.ref (oo 0)), (.ref (oo 4))])) (fun t k => ?_) ?_
  · show Steps p.tables e below (T146.setTop (mkF m 70 #[.val (.ref (oo 0)), .val (.int (2 : Int32)), .val (.int (1 : Int32)), .val (.int (2 : Int32))] [(.ref (oo 4))])) _
    refine XS.aloadN X146.here hx rfl (hb hby d6_70) rfl rfl ?_
    exact k
  obtain ⟨T147, X147, e147, st147⟩ := getF X146 hx hZ hown (host := "") (Or.inl (hw _ (List.mem_of_getElem? (i := 37) rfl))) Via.refl e146 f136 (g := (mkF m 71 #[.val (.ref (oo 0)), .val (.int (2 : Int32)), .val (.int (1 : Int32)), .val (.int (2 : Int32))] [(.ref (oo 0)), (.ref (oo 4))])) rfl rfl (hb hby d6_71)
  refine EndsQ.go st147 ?_
  show EndsQ _ _ _ _ _ _ _ (T147.setTop (mkF m 74 #[.val (.ref (oo 0)), .val (.int (2 : Int32)), .val (.int (1 : Int32)), .val (.int (2 : Int32))] [(.int (1 : Int32)), (.ref (oo 4))]))
  refine EndsQ.go (b := T147.setTop (mkF m 75 #[.val (.ref (oo 0)), .val (.int (2 : Int32)), .val (.int (1 : Int32)), .val (.int (2 : Int32))] [(.int (2 : Int32)), (.int (1 : Int32)), (.ref (oo 4))])) (fun t k => ?_) ?_
  · show Steps p.tables e below (T147.setTop (mkF m 74 #[.val (.ref (oo 0)), .val (.int (2 : Int32)), .val (.int (1 : Int32)), .val (.int (2 : Int32))] [(.int (1 : Int32)), (.ref (oo 4))])) _
    refine XS.iloadN X147.here hx rfl (hb hby d6_74) rfl ?_
    show Steps p.tables e below (T147.setTop (mkF m 75 #[.val (.ref (oo 0)), .val (.int (2 : Int32)), .val (.int (1 : Int32)), .val (.int (2 : Int32))] [(.int (2 : Int32)), (.int (1 : Int32)), (.ref (oo 4))])) _
    exact k
  obtain ⟨cl148, Ar148, q148, S148, M148, H148, G148⟩ := id f144
  have hin148 : ¬ ((1 : Int32) < 0 ∨ cl148.slots.size ≤ ((1 : Int32)).toNatClampNeg) := inb_of S148 ⟨by decide, by decide⟩
  obtain ⟨T148, h148, X148, e148, W148, st148⟩ := stI X147 hx hZ e147 Ar148 (j := (1 : Int32)) hin148 (g := (mkF m 75 #[.val (.ref (oo 0)), .val (.int (2 : Int32)), .val (.int (1 : Int32)), .val (.int (2 : Int32))] [(.int (2 : Int32)), (.int (1 : Int32)), (.ref (oo 4))])) rfl rfl (hb hby d6_75)
  have fa148 : Arv Z h148 (oo 4) (kk 4) .int (17 : Int32) [(.int (0 : Int32)), (.int (2 : Int32)), (.int s2)] (.int (0 : Int32)) := Arv.set Ar148 q148 S148 M148 H148 G148 rfl W148 1 rfl (Nat.le_of_ble_eq_true rfl)
  have f149 := f128.wr W148
  have f150 := f129.other W148 (Or.inl (hne 0 4 (by decide) (by decide) (by decide)))
  have f151 := f130.other W148 (Or.inl (hne 0 4 (by decide) (by decide) (by decide)))
  have f152 := f131.other W148 (Or.inl (hne 0 4 (by decide) (by decide) (by decide)))
  have f153 := f132.other W148 (Or.inl (hne 0 4 (by decide) (by decide) (by decide)))
  have f154 := f133.other W148 (Or.inl (hne 0 4 (by decide) (by decide) (by decide)))
  have f155 := f134.other W148 (Or.inl (hne 0 4 (by decide) (by decide) (by decide)))
  have f156 := f135.other W148 (Or.inl (hne 0 4 (by decide) (by decide) (by decide)))
  have f157 := f136.other W148 (Or.inl (hne 0 4 (by decide) (by decide) (by decide)))
  have f158 := f137.other W148 (Or.inl (hne 0 4 (by decide) (by decide) (by decide)))
  have f159 := f138.other W148 (hne 1 4 (by decide) (by decide) (by decide))
  have f160 := f139.other W148 (hne 2 4 (by decide) (by decide) (by decide))
  have f161 := f140.other W148 (hne 3 4 (by decide) (by decide) (by decide))
  have f162 := f141.other W148 (hne 5 4 (by decide) (by decide) (by decide))
  have f163 := f142.other W148 (hne 7 4 (by decide) (by decide) (by decide))
  have f164 := Nat.le_trans f143 (Keep.of_wr W148).1
  have f165 := fa127.other W148 (hne 6 4 (by decide) (by decide) (by decide))
  have N148 := Fr.snoc X148 N127 (hn 4 (by decide))
  refine EndsQ.go st148 ?_
  show EndsQ _ _ _ _ _ _ _ (T148.setTop (mkF m 76 #[.val (.ref (oo 0)), .val (.int (2 : Int32)), .val (.int (1 : Int32)), .val (.int (2 : Int32))] []))
  refine EndsQ.go (b := T148.setTop (mkF m 80 #[.val (.ref (oo 0)), .val (.int (2 : Int32)), .val (.int (0 : Int32)), .val (.int (2 : Int32))] [(.ref (oo 0)), (.int (0 : Int32))])) (fun t k => ?_) ?_
  · show Steps p.tables e below (T148.setTop (mkF m 76 #[.val (.ref (oo 0)), .val (.int (2 : Int32)), .val (.int (1 : Int32)), .val (.int (2 : Int32))] [])) _
    refine XS.iconst X148.here hx rfl (hb hby d6_76) ?_
    refine XS.istoreN X148.here hx rfl (hb hby d6_77) rfl (l' := #[.val (.ref (oo 0)), .val (.int (2 : Int32)), .val (.int (0 : Int32)), .val (.int (2 : Int32))]) rfl ?_
    refine XS.iloadN X148.here hx rfl (hb hby d6_78) rfl ?_
    refine XS.aloadN X148.here hx rfl (hb hby d6_79) rfl rfl ?_
    show Steps p.tables e below (T148.setTop (mkF m 80 #[.val (.ref (oo 0)), .val (.int (2 : Int32)), .val (.int (0 : Int32)), .val (.int (2 : Int32))] [(.ref (oo 0)), (.int (0 : Int32))])) _
    exact k
  obtain ⟨T166, X166, e166, st166⟩ := getF X148 hx hZ hown (host := "") (Or.inl (hw _ (List.mem_of_getElem? (i := 35) rfl))) Via.refl e148 f158 (g := (mkF m 80 #[.val (.ref (oo 0)), .val (.int (2 : Int32)), .val (.int (0 : Int32)), .val (.int (2 : Int32))] [(.ref (oo 0)), (.int (0 : Int32))])) rfl rfl (hb hby d6_80)
  refine EndsQ.go st166 ?_
  show EndsQ _ _ _ _ _ _ _ (T166.setTop (mkF m 83 #[.val (.ref (oo 0)), .val (.int (2 : Int32)), .val (.int (0 : Int32)), .val (.int (2 : Int32))] [(.int (2 : Int32)), (.int (0 : Int32))]))
  refine EndsQ.go (b := T166.setTop (mkF m 87 #[.val (.ref (oo 0)), .val (.int (2 : Int32)), .val (.int (0 : Int32)), .val (.int (2 : Int32))] [(.ref (oo 0))])) (fun t k => ?_) ?_
  · show Steps p.tables e below (T166.setTop (mkF m 83 #[.val (.ref (oo 0)), .val (.int (2 : Int32)), .val (.int (0 : Int32)), .val (.int (2 : Int32))] [(.int (2 : Int32)), (.int (0 : Int32))])) _
    refine XS.icmpNo X166.here hx rfl (hb hby d6_83) rfl (tlt (by decide)).2.1 ?_
    show Steps p.tables e below (T166.setTop (mkF m 86 #[.val (.ref (oo 0)), .val (.int (2 : Int32)), .val (.int (0 : Int32)), .val (.int (2 : Int32))] [])) _
    refine XS.aloadN X166.here hx rfl (hb hby d6_86) rfl rfl ?_
    exact k
  obtain ⟨T167, X167, e167, st167⟩ := getF X166 hx hZ hown (host := "") (Or.inl (hw _ (List.mem_of_getElem? (i := 19) rfl))) Via.refl e166 f154 (g := (mkF m 87 #[.val (.ref (oo 0)), .val (.int (2 : Int32)), .val (.int (0 : Int32)), .val (.int (2 : Int32))] [(.ref (oo 0))])) rfl rfl (hb hby d6_87)
  refine EndsQ.go st167 ?_
  show EndsQ _ _ _ _ _ _ _ (T167.setTop (mkF m 90 #[.val (.ref (oo 0)), .val (.int (2 : Int32)), .val (.int (0 : Int32)), .val (.int (2 : Int32))] [(.ref (oo 5))]))
  refine EndsQ.go (b := T167.setTop (mkF m 91 #[.val (.ref (oo 0)), .val (.int (2 : Int32)), .val (.int (0 : Int32)), .val (.int (2 : Int32))] [(.ref (oo 0)), (.ref (oo 5))])) (fun t k => ?_) ?_
  · show Steps p.tables e below (T167.setTop (mkF m 90 #[.val (.ref (oo 0)), .val (.int (2 : Int32)), .val (.int (0 : Int32)), .val (.int (2 : Int32))] [(.ref (oo 5))])) _
    refine XS.aloadN X167.here hx rfl (hb hby d6_90) rfl rfl ?_
    exact k
  obtain ⟨T168, X168, e168, st168⟩ := getF X167 hx hZ hown (host := "") (Or.inl (hw _ (List.mem_of_getElem? (i := 21) rfl))) Via.refl e167 f155 (g := (mkF m 91 #[.val (.ref (oo 0)), .val (.int (2 : Int32)), .val (.int (0 : Int32)), .val (.int (2 : Int32))] [(.ref (oo 0)), (.ref (oo 5))])) rfl rfl (hb hby d6_91)
  refine EndsQ.go st168 ?_
  show EndsQ _ _ _ _ _ _ _ (T168.setTop (mkF m 94 #[.val (.ref (oo 0)), .val (.int (2 : Int32)), .val (.int (0 : Int32)), .val (.int (2 : Int32))] [(.ref (oo 6)), (.ref (oo 5))]))
  refine EndsQ.go (b := T168.setTop (mkF m 95 #[.val (.ref (oo 0)), .val (.int (2 : Int32)), .val (.int (0 : Int32)), .val (.int (2 : Int32))] [(.ref (oo 0)), (.ref (oo 6)), (.ref (oo 5))])) (fun t k => ?_) ?_
  · show Steps p.tables e below (T168.setTop (mkF m 94 #[.val (.ref (oo 0)), .val (.int (2 : Int32)), .val (.int (0 : Int32)), .val (.int (2 : Int32))] [(.ref (oo 6)), (.ref (oo 5))])) _
    refine XS.aloadN X168.here hx rfl (hb hby d6_94) rfl rfl ?_
    exact k
  obtain ⟨T169, X169, e169, st169⟩ := getF X168 hx hZ hown (host := "") (Or.inl (hw _ (List.mem_of_getElem? (i := 12) rfl))) Via.refl e168 f151 (g := (mkF m 95 #[.val (.ref (oo 0)), .val (.int (2 : Int32)), .val (.int (0 : Int32)), .val (.int (2 : Int32))] [(.ref (oo 0)), (.ref (oo 6)), (.ref (oo 5))])) rfl rfl (hb hby d6_95)
  refine EndsQ.go st169 ?_
  show EndsQ _ _ _ _ _ _ _ (T169.setTop (mkF m 98 #[.val (.ref (oo 0)), .val (.int (2 : Int32)), .val (.int (0 : Int32)), .val (.int (2 : Int32))] [(.ref (oo 2)), (.ref (oo 6)), (.ref (oo 5))]))
  refine EndsQ.go (b := T169.setTop (mkF m 99 #[.val (.ref (oo 0)), .val (.int (2 : Int32)), .val (.int (0 : Int32)), .val (.int (2 : Int32))] [(.int (0 : Int32)), (.ref (oo 2)), (.ref (oo 6)), (.ref (oo 5))])) (fun t k => ?_) ?_
  · show Steps p.tables e below (T169.setTop (mkF m 98 #[.val (.ref (oo 0)), .val (.int (2 : Int32)), .val (.int (0 : Int32)), .val (.int (2 : Int32))] [(.ref (oo 2)), (.ref (oo 6)), (.ref (oo 5))])) _
    refine XS.iloadN X169.here hx rfl (hb hby d6_98) rfl ?_
    show Steps p.tables e below (T169.setTop (mkF m 99 #[.val (.ref (oo 0)), .val (.int (2 : Int32)), .val (.int (0 : Int32)), .val (.int (2 : Int32))] [(.int (0 : Int32)), (.ref (oo 2)), (.ref (oo 6)), (.ref (oo 5))])) _
    exact k
  obtain ⟨cl170, Ar170, q170, S170, M170, H170, G170⟩ := id f160
  have hin170 : ¬ ((0 : Int32) < 0 ∨ cl170.slots.size ≤ ((0 : Int32)).toNatClampNeg) := inb_of S170 ⟨by decide, by decide⟩
  have hat170 : cl170.slots[((0 : Int32)).toNatClampNeg]? = some (.int (0 : Int32)) := Has.at H170 hin170 rfl
  refine EndsQ.go (fun t k => X169.iaload hx (j := (0 : Int32)) (v := (.int (0 : Int32))) (by rw [e169]; exact Ar170.1) (State.isArrayOf_alike hZ.alike Ar170.2.1) Ar170.2.2 hin170 hat170 (g := (mkF m 99 #[.val (.ref (oo 0)), .val (.int (2 : Int32)), .val (.int (0 : Int32)), .val (.int (2 : Int32))] [(.int (0 : Int32)), (.ref (oo 2)), (.ref (oo 6)), (.ref (oo 5))])) rfl rfl (hb hby d6_99) _ k) ?_
  show EndsQ _ _ _ _ _ _ _ (T169.setTop (mkF m 100 #[.val (.ref (oo 0)), .val (.int (2 : Int32)), .val (.int (0 : Int32)), .val (.int (2 : Int32))] [(.int (0 : Int32)), (.ref (oo 6)), (.ref (oo 5))]))
  refine EndsQ.go (b := T169.setTop (mkF m 101 #[.val (.ref (oo 0)), .val (.int (2 : Int32)), .val (.int (0 : Int32)), .val (.int (2 : Int32))] [(.int (0 : Int32)), (.ref (oo 6)), (.int (0 : Int32)), (.ref (oo 6)), (.ref (oo 5))])) (fun t k => ?_) ?_
  · show Steps p.tables e below (T169.setTop (mkF m 100 #[.val (.ref (oo 0)), .val (.int (2 : Int32)), .val (.int (0 : Int32)), .val (.int (2 : Int32))] [(.int (0 : Int32)), (.ref (oo 6)), (.ref (oo 5))])) _
    refine Jvm.Free.XT.dup2 X169.here hx rfl (hb hby d6_100) rfl rfl rfl ?_
    exact k
  obtain ⟨cl171, Ar171, q171, S171, M171, H171, G171⟩ := id f165
  have hin171 : ¬ ((0 : Int32) < 0 ∨ cl171.slots.size ≤ ((0 : Int32)).toNatClampNeg) := inb_of S171 ⟨by decide, by decide⟩
  have hat171 : cl171.slots[((0 : Int32)).toNatClampNeg]? = some (.int (0 : Int32)) := Has.at H171 hin171 rfl
  refine EndsQ.go (fun t k => X169.iaload hx (j := (0 : Int32)) (v := (.int (0 : Int32))) (by rw [e169]; exact Ar171.1) (State.isArrayOf_alike hZ.alike Ar171.2.1) Ar171.2.2 hin171 hat171 (g := (mkF m 101 #[.val (.ref (oo 0)), .val (.int (2 : Int32)), .val (.int (0 : Int32)), .val (.int (2 : Int32))] [(.int (0 : Int32)), (.ref (oo 6)), (.int (0 : Int32)), (.ref (oo 6)), (.ref (oo 5))])) rfl rfl (hb hby d6_101) _ k) ?_
  show EndsQ _ _ _ _ _ _ _ (T169.setTop (mkF m 102 #[.val (.ref (oo 0)), .val (.int (2 : Int32)), .val (.int (0 : Int32)), .val (.int (2 : Int32))] [(.int (0 : Int32)), (.int (0 : Int32)), (.ref (oo 6)), (.ref (oo 5))]))
  refine EndsQ.go (b := T169.setTop (mkF m 105 #[.val (.ref (oo 0)), .val (.int (2 : Int32)), .val (.int (0 : Int32)), .val (.int (2 : Int32))] [(.int (1 : Int32)), (.int (0 : Int32)), (.ref (oo 6)), (.int (0 : Int32)), (.ref (oo 5))])) (fun t k => ?_) ?_
  · show Steps p.tables e below (T169.setTop (mkF m 102 #[.val (.ref (oo 0)), .val (.int (2 : Int32)), .val (.int (0 : Int32)), .val (.int (2 : Int32))] [(.int (0 : Int32)), (.int (0 : Int32)), (.ref (oo 6)), (.ref (oo 5))])) _
    refine own_dupX2 X169.here hx rfl (hb hby d6_102) rfl rfl rfl rfl ?_
    refine XS.iconst X169.here hx rfl (hb hby d6_103) ?_
    refine XS.iadd X169.here hx rfl (hb hby d6_104) rfl ?_
    show Steps p.tables e below (T169.setTop (mkF m 105 #[.val (.ref (oo 0)), .val (.int (2 : Int32)), .val (.int (0 : Int32)), .val (.int (2 : Int32))] [(.int ((0 : Int32) + (1 : Int32))), (.int (0 : Int32)), (.ref (oo 6)), (.int (0 : Int32)), (.ref (oo 5))])) _
    rw [(by decide : ((0 : Int32) + (1 : Int32)) = (1 : Int32))]
    show Steps p.tables e below (T169.setTop (mkF m 105 #[.val (.ref (oo 0)), .val (.int (2 : Int32)), .val (.int (0 : Int32)), .val (.int (2 : Int32))] [(.int (1 : Int32)), (.int (0 : Int32)), (.ref (oo 6)), (.int (0 : Int32)), (.ref (oo 5))])) _
    exact k
  obtain ⟨cl172, Ar172, q172, S172, M172, H172, G172⟩ := id f165
  have hin172 : ¬ ((0 : Int32) < 0 ∨ cl172.slots.size ≤ ((0 : Int32)).toNatClampNeg) := inb_of S172 ⟨by decide, by decide⟩
  obtain ⟨T172, h172, X172, e172, W172, st172⟩ := stI X169 hx hZ e169 Ar172 (j := (0 : Int32)) hin172 (g := (mkF m 105 #[.val (.ref (oo 0)), .val (.int (2 : Int32)), .val (.int (0 : Int32)), .val (.int (2 : Int32))] [(.int (1 : Int32)), (.int (0 : Int32)), (.ref (oo 6)), (.int (0 : Int32)), (.ref (oo 5))])) rfl rfl (hb hby d6_105)
  have fa172 : Arv Z h172 (oo 6) (kk 6) .int (16 : Int32) [(.int (1 : Int32)), (.int t1), (.int t2)] (.int (0 : Int32)) := Arv.set Ar172 q172 S172 M172 H172 G172 rfl W172 0 rfl (Nat.le_of_ble_eq_true rfl)
  have f173 := f149.wr W172
  have f174 := f150.other W172 (Or.inl (hne 0 6 (by decide) (by decide) (by decide)))
  have f175 := f151.other W172 (Or.inl (hne 0 6 (by decide) (by decide) (by decide)))
  have f176 := f152.other W172 (Or.inl (hne 0 6 (by decide) (by decide) (by decide)))
  have f177 := f153.other W172 (Or.inl (hne 0 6 (by decide) (by decide) (by decide)))
  have f178 := f154.other W172 (Or.inl (hne 0 6 (by decide) (by decide) (by decide)))
  have f179 := f155.other W172 (Or.inl (hne 0 6 (by decide) (by decide) (by decide)))
  have f180 := f156.other W172 (Or.inl (hne 0 6 (by decide) (by decide) (by decide)))
  have f181 := f157.other W172 (Or.inl (hne 0 6 (by decide) (by decide) (by decide)))
  have f182 := f158.other W172 (Or.inl (hne 0 6 (by decide) (by decide) (by decide)))
  have f183 := f159.other W172 (hne 1 6 (by decide) (by decide) (by decide))
  have f184 := f160.other W172 (hne 2 6 (by decide) (by decide) (by decide))
  have f185 := f161.other W172 (hne 3 6 (by decide) (by decide) (by decide))
  have f186 := f162.other W172 (hne 5 6 (by decide) (by decide) (by decide))
  have f187 := f163.other W172 (hne 7 6 (by decide) (by decide) (by decide))
  have f188 := Nat.le_trans f164 (Keep.of_wr W172).1
  have f189 := fa148.other W172 (hne 4 6 (by decide) (by decide) (by decide))
  have N172 := Fr.snoc X172 N148 (hn 6 (by decide))
  refine EndsQ.go st172 ?_
  show EndsQ _ _ _ _ _ _ _ (T172.setTop (mkF m 106 #[.val (.ref (oo 0)), .val (.int (2 : Int32)), .val (.int (0 : Int32)), .val (.int (2 : Int32))] [(.int (0 : Int32)), (.ref (oo 5))]))
  refine EndsQ.go (b := T172.setTop (mkF m 107 #[.val (.ref (oo 0)), .val (.int (2 : Int32)), .val (.int (0 : Int32)), .val (.int (2 : Int32))] [(.ref (oo 0)), (.int (0 : Int32)), (.ref (oo 5))])) (fun t k => ?_) ?_
  · show Steps p.tables e below (T172.setTop (mkF m 106 #[.val (.ref (oo 0)), .val (.int (2 : Int32)), .val (.int (0 : Int32)), .val (.int (2 : Int32))] [(.int (0 : Int32)), (.ref (oo 5))])) _
    refine XS.aloadN X172.here hx rfl (hb hby d6_106) rfl rfl ?_
    exact k
  obtain ⟨T190, X190, e190, st190⟩ := getF X172 hx hZ hown (host := "") (Or.inl (hw _ (List.mem_of_getElem? (i := 15) rfl))) Via.refl e172 f176 (g := (mkF m 107 #[.val (.ref (oo 0)), .val (.int (2 : Int32)), .val (.int (0 : Int32)), .val (.int (2 : Int32))] [(.ref (oo 0)), (.int (0 : Int32)), (.ref (oo 5))])) rfl rfl (hb hby d6_107)
  refine EndsQ.go st190 ?_
  show EndsQ _ _ _ _ _ _ _ (T190.setTop (mkF m 110 #[.val (.ref (oo 0)), .val (.int (2 : Int32)), .val (.int (0 : Int32)), .val (.int (2 : Int32))] [(.ref (oo 3)), (.int (0 : Int32)), (.ref (oo 5))]))
  refine EndsQ.go (b := T190.setTop (mkF m 111 #[.val (.ref (oo 0)), .val (.int (2 : Int32)), .val (.int (0 : Int32)), .val (.int (2 : Int32))] [(.int (0 : Int32)), (.ref (oo 3)), (.int (0 : Int32)), (.ref (oo 5))])) (fun t k => ?_) ?_
  · show Steps p.tables e below (T190.setTop (mkF m 110 #[.val (.ref (oo 0)), .val (.int (2 : Int32)), .val (.int (0 : Int32)), .val (.int (2 : Int32))] [(.ref (oo 3)), (.int (0 : Int32)), (.ref (oo 5))])) _
    refine XS.iloadN X190.here hx rfl (hb hby d6_110) rfl ?_
    exact k
  obtain ⟨cl191, Ar191, q191, S191, M191, H191, G191⟩ := id f185
  have hin191 : ¬ ((0 : Int32) < 0 ∨ cl191.slots.size ≤ ((0 : Int32)).toNatClampNeg) := inb_of S191 ⟨by decide, by decide⟩
  have hat191 : cl191.slots[((0 : Int32)).toNatClampNeg]? = some (.double (FP.l2d x0)) := Has.at H191 hin191 rfl
  refine EndsQ.go (fun t k => X190.daload hx (j := (0 : Int32)) (v := (.double (FP.l2d x0))) (by rw [e190]; exact Ar191.1) (State.isArrayOf_alike hZ.alike Ar191.2.1) Ar191.2.2 hin191 hat191 (g := (mkF m 111 #[.val (.ref (oo 0)), .val (.int (2 : Int32)), .val (.int (0 : Int32)), .val (.int (2 : Int32))] [(.int (0 : Int32)), (.ref (oo 3)), (.int (0 : Int32)), (.ref (oo 5))])) rfl rfl (hb hby d6_111) _ k) ?_
  show EndsQ _ _ _ _ _ _ _ (T190.setTop (mkF m 112 #[.val (.ref (oo 0)), .val (.int (2 : Int32)), .val (.int (0 : Int32)), .val (.int (2 : Int32))] [(.double (FP.l2d x0)), (.int (0 : Int32)), (.ref (oo 5))]))
  obtain ⟨cl192, Ar192, q192, S192, M192, H192, G192⟩ := id f186
  have hin192 : ¬ ((0 : Int32) < 0 ∨ cl192.slots.size ≤ ((0 : Int32)).toNatClampNeg) := inb_of S192 ⟨by decide, by decide⟩
  obtain ⟨T192, h192, X192, e192, W192, st192⟩ := stD X190 hx hZ e190 Ar192 (j := (0 : Int32)) hin192 (g := (mkF m 112 #[.val (.ref (oo 0)), .val (.int (2 : Int32)), .val (.int (0 : Int32)), .val (.int (2 : Int32))] [(.double (FP.l2d x0)), (.int (0 : Int32)), (.ref (oo 5))])) rfl rfl (hb hby d6_112)
  have fa192 : Arv Z h192 (oo 5) (kk 5) .double (64 : Int32) [(.double (FP.l2d x0)), (.double g1), (.double g2)] (.double (0 : UInt64)) := Arv.set Ar192 q192 S192 M192 H192 G192 rfl W192 0 rfl (Nat.le_of_ble_eq_true rfl)
  have f193 := f173.wr W192
  have f194 := f174.other W192 (Or.inl (hne 0 5 (by decide) (by decide) (by decide)))
  have f195 := f175.other W192 (Or.inl (hne 0 5 (by decide) (by decide) (by decide)))
  have f196 := f176.other W192 (Or.inl (hne 0 5 (by decide) (by decide) (by decide)))
  have f197 := f177.other W192 (Or.inl (hne 0 5 (by decide) (by decide) (by decide)))
  have f198 := f178.other W192 (Or.inl (hne 0 5 (by decide) (by decide) (by decide)))
  have f199 := f179.other W192 (Or.inl (hne 0 5 (by decide) (by decide) (by decide)))
  have f200 := f180.other W192 (Or.inl (hne 0 5 (by decide) (by decide) (by decide)))
  have f201 := f181.other W192 (Or.inl (hne 0 5 (by decide) (by decide) (by decide)))
  have f202 := f182.other W192 (Or.inl (hne 0 5 (by decide) (by decide) (by decide)))
  have f203 := f183.other W192 (hne 1 5 (by decide) (by decide) (by decide))
  have f204 := f184.other W192 (hne 2 5 (by decide) (by decide) (by decide))
  have f205 := f185.other W192 (hne 3 5 (by decide) (by decide) (by decide))
  have f206 := f187.other W192 (hne 7 5 (by decide) (by decide) (by decide))
  have f207 := Nat.le_trans f188 (Keep.of_wr W192).1
  have f208 := f189.other W192 (hne 4 5 (by decide) (by decide) (by decide))
  have f209 := fa172.other W192 (hne 6 5 (by decide) (by decide) (by decide))
  have N192 := Fr.snoc X192 N172 (hn 5 (by decide))
  refine EndsQ.go st192 ?_
  show EndsQ _ _ _ _ _ _ _ (T192.setTop (mkF m 113 #[.val (.ref (oo 0)), .val (.int (2 : Int32)), .val (.int (0 : Int32)), .val (.int (2 : Int32))] []))
  refine EndsQ.go (b := T192.setTop (mkF m 80 #[.val (.ref (oo 0)), .val (.int (2 : Int32)), .val (.int (1 : Int32)), .val (.int (2 : Int32))] [(.ref (oo 0)), (.int (1 : Int32))])) (fun t k => ?_) ?_
  · show Steps p.tables e below (T192.setTop (mkF m 113 #[.val (.ref (oo 0)), .val (.int (2 : Int32)), .val (.int (0 : Int32)), .val (.int (2 : Int32))] [])) _
    refine XS.iinc X192.here hx rfl (hb hby d6_113) rfl (l' := #[.val (.ref (oo 0)), .val (.int (2 : Int32)), .val (.int ((0 : Int32) + Int32.ofInt 1)), .val (.int (2 : Int32))]) rfl ?_
    show Steps p.tables e below (T192.setTop (mkF m 116 #[.val (.ref (oo 0)), .val (.int (2 : Int32)), .val (.int ((0 : Int32) + Int32.ofInt 1)), .val (.int (2 : Int32))] [])) _
    rw [(by decide : ((0 : Int32) + Int32.ofInt 1) = (1 : Int32))]
    show Steps p.tables e below (T192.setTop (mkF m 116 #[.val (.ref (oo 0)), .val (.int (2 : Int32)), .val (.int (1 : Int32)), .val (.int (2 : Int32))] [])) _
    refine XS.goto X192.here hx rfl (pc0 := 116) (pc' := 78) rfl (hb hby d6_116) (by decide) (by decide) ?_
    show Steps p.tables e below (T192.setTop (mkF m 78 #[.val (.ref (oo 0)), .val (.int (2 : Int32)), .val (.int (1 : Int32)), .val (.int (2 : Int32))] [])) _
    refine XS.iloadN X192.here hx rfl (hb hby d6_78) rfl ?_
    refine XS.aloadN X192.here hx rfl (hb hby d6_79) rfl rfl ?_
    exact k
  obtain ⟨T210, X210, e210, st210⟩ := getF X192 hx hZ hown (host := "") (Or.inl (hw _ (List.mem_of_getElem? (i := 35) rfl))) Via.refl e192 f202 (g := (mkF m 80 #[.val (.ref (oo 0)), .val (.int (2 : Int32)), .val (.int (1 : Int32)), .val (.int (2 : Int32))] [(.ref (oo 0)), (.int (1 : Int32))])) rfl rfl (hb hby d6_80)
  refine EndsQ.go st210 ?_
  show EndsQ _ _ _ _ _ _ _ (T210.setTop (mkF m 83 #[.val (.ref (oo 0)), .val (.int (2 : Int32)), .val (.int (1 : Int32)), .val (.int (2 : Int32))] [(.int (2 : Int32)), (.int (1 : Int32))]))
  refine EndsQ.go (b := T210.setTop (mkF m 87 #[.val (.ref (oo 0)), .val (.int (2 : Int32)), .val (.int (1 : Int32)), .val (.int (2 : Int32))] [(.ref (oo 0))])) (fun t k => ?_) ?_
  · show Steps p.tables e below (T210.setTop (mkF m 83 #[.val (.ref (oo 0)), .val (.int (2 : Int32)), .val (.int (1 : Int32)), .val (.int (2 : Int32))] [(.int (2 : Int32)), (.int (1 : Int32))])) _
    refine XS.icmpNo X210.here hx rfl (hb hby d6_83) rfl (tlt (by decide)).2.1 ?_
    show Steps p.tables e below (T210.setTop (mkF m 86 #[.val (.ref (oo 0)), .val (.int (2 : Int32)), .val (.int (1 : Int32)), .val (.int (2 : Int32))] [])) _
    refine XS.aloadN X210.here hx rfl (hb hby d6_86) rfl rfl ?_
    exact k
  obtain ⟨T211, X211, e211, st211⟩ := getF X210 hx hZ hown (host := "") (Or.inl (hw _ (List.mem_of_getElem? (i := 19) rfl))) Via.refl e210 f198 (g := (mkF m 87 #[.val (.ref (oo 0)), .val (.int (2 : Int32)), .val (.int (1 : Int32)), .val (.int (2 : Int32))] [(.ref (oo 0))])) rfl rfl (hb hby d6_87)
  refine EndsQ.go st211 ?_
  show EndsQ _ _ _ _ _ _ _ (T211.setTop (mkF m 90 #[.val (.ref (oo 0)), .val (.int (2 : Int32)), .val (.int (1 : Int32)), .val (.int (2 : Int32))] [(.ref (oo 5))]))
  refine EndsQ.go (b := T211.setTop (mkF m 91 #[.val (.ref (oo 0)), .val (.int (2 : Int32)), .val (.int (1 : Int32)), .val (.int (2 : Int32))] [(.ref (oo 0)), (.ref (oo 5))])) (fun t k => ?_) ?_
  · show Steps p.tables e below (T211.setTop (mkF m 90 #[.val (.ref (oo 0)), .val (.int (2 : Int32)), .val (.int (1 : Int32)), .val (.int (2 : Int32))] [(.ref (oo 5))])) _
    refine XS.aloadN X211.here hx rfl (hb hby d6_90) rfl rfl ?_
    show Steps p.tables e below (T211.setTop (mkF m 91 #[.val (.ref (oo 0)), .val (.int (2 : Int32)), .val (.int (1 : Int32)), .val (.int (2 : Int32))] [(.ref (oo 0)), (.ref (oo 5))])) _
    exact k
  obtain ⟨T212, X212, e212, st212⟩ := getF X211 hx hZ hown (host := "") (Or.inl (hw _ (List.mem_of_getElem? (i := 21) rfl))) Via.refl e211 f199 (g := (mkF m 91 #[.val (.ref (oo 0)), .val (.int (2 : Int32)), .val (.int (1 : Int32)), .val (.int (2 : Int32))] [(.ref (oo 0)), (.ref (oo 5))])) rfl rfl (hb hby d6_91)
  refine EndsQ.go st212 ?_
  show EndsQ _ _ _ _ _ _ _ (T212.setTop (mkF m 94 #[.val (.ref (oo 0)), .val (.int (2 : Int32)), .val (.int (1 : Int32)), .val (.int (2 : Int32))] [(.ref (oo 6)), (.ref (oo 5))]))
  refine EndsQ.go (b := T212.setTop (mkF m 95 #[.val (.ref (oo 0)), .val (.int (2 : Int32)), .val (.int (1 : Int32)), .val (.int (2 : Int32))] [(.ref (oo 0)), (.ref (oo 6)), (.ref (oo 5))])) (fun t k => ?_) ?_
  · show Steps p.tables e below (T212.setTop (mkF m 94 #[.val (.ref (oo 0)), .val (.int (2 : Int32)), .val (.int (1 : Int32)), .val (.int (2 : Int32))] [(.ref (oo 6)), (.ref (oo 5))])) _
    refine XS.aloadN X212.here hx rfl (hb hby d6_94) rfl rfl ?_
    exact k
  obtain ⟨T213, X213, e213, st213⟩ := getF X212 hx hZ hown (host := "") (Or.inl (hw _ (List.mem_of_getElem? (i := 12) rfl))) Via.refl e212 f195 (g := (mkF m 95 #[.val (.ref (oo 0)), .val (.int (2 : Int32)), .val (.int (1 : Int32)), .val (.int (2 : Int32))] [(.ref (oo 0)), (.ref (oo 6)), (.ref (oo 5))])) rfl rfl (hb hby d6_95)
  refine EndsQ.go st213 ?_
  show EndsQ _ _ _ _ _ _ _ (T213.setTop (mkF m 98 #[.val (.ref (oo 0)), .val (.int (2 : Int32)), .val (.int (1 : Int32)), .val (.int (2 : Int32))] [(.ref (oo 2)), (.ref (oo 6)), (.ref (oo 5))]))
  refine EndsQ.go (b := T213.setTop (mkF m 99 #[.val (.ref (oo 0)), .val (.int (2 : Int32)), .val (.int (1 : Int32)), .val (.int (2 : Int32))] [(.int (1 : Int32)), (.ref (oo 2)), (.ref (oo 6)), (.ref (oo 5))])) (fun t k => ?_) ?_
  · show Steps p.tables e below (T213.setTop (mkF m 98 #[.val (.ref (oo 0)), .val (.int (2 : Int32)), .val (.int (1 : Int32)), .val (.int (2 : Int32))] [(.ref (oo 2)), (.ref (oo 6)), (.ref (oo 5))])) _
    refine XS.iloadN X213.here hx rfl (hb hby d6_98) rfl ?_
    exact k
  obtain ⟨cl214, Ar214, q214, S214, M214, H214, G214⟩ := id f204
  have hin214 : ¬ ((1 : Int32) < 0 ∨ cl214.slots.size ≤ ((1 : Int32)).toNatClampNeg) := inb_of S214 ⟨by decide, by decide⟩
  have hat214 : cl214.slots[((1 : Int32)).toNatClampNeg]? = some (.int (0 : Int32)) := Has.at H214 hin214 rfl
  refine EndsQ.go (fun t k => X213.iaload hx (j := (1 : Int32)) (v := (.int (0 : Int32))) (by rw [e213]; exact Ar214.1) (State.isArrayOf_alike hZ.alike Ar214.2.1) Ar214.2.2 hin214 hat214 (g := (mkF m 99 #[.val (.ref (oo 0)), .val (.int (2 : Int32)), .val (.int (1 : Int32)), .val (.int (2 : Int32))] [(.int (1 : Int32)), (.ref (oo 2)), (.ref (oo 6)), (.ref (oo 5))])) rfl rfl (hb hby d6_99) _ k) ?_
  show EndsQ _ _ _ _ _ _ _ (T213.setTop (mkF m 100 #[.val (.ref (oo 0)), .val (.int (2 : Int32)), .val (.int (1 : Int32)), .val (.int (2 : Int32))] [(.int (0 : Int32)), (.ref (oo 6)), (.ref (oo 5))]))
  refine EndsQ.go (b := T213.setTop (mkF m 101 #[.val (.ref (oo 0)), .val (.int (2 : Int32)), .val (.int (1 : Int32)), .val (.int (2 : Int32))] [(.int (0 : Int32)), (.ref (oo 6)), (.int (0 : Int32)), (.ref (oo 6)), (.ref (oo 5))])) (fun t k => ?_) ?_
  · show Steps p.tables e below (T213.setTop (mkF m 100 #[.val (.ref (oo 0)), .val (.int (2 : Int32)), .val (.int (1 : Int32)), .val (.int (2 : Int32))] [(.int (0 : Int32)), (.ref (oo 6)), (.ref (oo 5))])) _
    refine Jvm.Free.XT.dup2 X213.here hx rfl (hb hby d6_100) rfl rfl rfl ?_
    exact k
  obtain ⟨cl215, Ar215, q215, S215, M215, H215, G215⟩ := id f209
  have hin215 : ¬ ((0 : Int32) < 0 ∨ cl215.slots.size ≤ ((0 : Int32)).toNatClampNeg) := inb_of S215 ⟨by decide, by decide⟩
  have hat215 : cl215.slots[((0 : Int32)).toNatClampNeg]? = some (.int (1 : Int32)) := Has.at H215 hin215 rfl
  refine EndsQ.go (fun t k => X213.iaload hx (j := (0 : Int32)) (v := (.int (1 : Int32))) (by rw [e213]; exact Ar215.1) (State.isArrayOf_alike hZ.alike Ar215.2.1) Ar215.2.2 hin215 hat215 (g := (mkF m 101 #[.val (.ref (oo 0)), .val (.int (2 : Int32)), .val (.int (1 : Int32)), .val (.int (2 : Int32))] [(.int (0 : Int32)), (.ref (oo 6)), (.int (0 : Int32)), (.ref (oo 6)), (.ref (oo 5))])) rfl rfl (hb hby d6_101) _ k) ?_
  show EndsQ _ _ _ _ _ _ _ (T213.setTop (mkF m 102 #[.val (.ref (oo 0)), .val (.int (2 : Int32)), .val (.int (1 : Int32)), .val (.int (2 : Int32))] [(.int (1 : Int32)), (.int (0 : Int32)), (.ref (oo 6)), (.ref (oo 5))]))
  refine EndsQ.go (b := T213.setTop (mkF m 105 #[.val (.ref (oo 0)), .val (.int (2 : Int32)), .val (.int (1 : Int32)), .val (.int (2 : Int32))] [(.int (2 : Int32)), (.int (0 : Int32)), (.ref (oo 6)), (.int (1 : Int32)), (.ref (oo 5))])) (fun t k => ?_) ?_
  · show Steps p.tables e below (T213.setTop (mkF m 102 #[.val (.ref (oo 0)), .val (.int (2 : Int32)), .val (.int (1 : Int32)), .val (.int (2 : Int32))] [(.int (1 : Int32)), (.int (0 : Int32)), (.ref (oo 6)), (.ref (oo 5))])) _
    refine own_dupX2 X213.here hx rfl (hb hby d6_102) rfl rfl rfl rfl ?_
    show Steps p.tables e below (T213.setTop (mkF m 103 #[.val (.ref (oo 0)), .val (.int (2 : Int32)), .val (.int (1 : Int32)), .val (.int (2 : Int32))] [(.int (1 : Int32)), (.int (0 : Int32)), (.ref (oo 6)), (.int (1 : Int32)), (.ref (oo 5))])) _
    refine XS.iconst X213.here hx rfl (hb hby d6_103) ?_
    refine XS.iadd X213.here hx rfl (hb hby d6_104) rfl ?_
    show Steps p.tables e below (T213.setTop (mkF m 105 #[.val (.ref (oo 0)), .val (.int (2 : Int32)), .val (.int (1 : Int32)), .val (.int (2 : Int32))] [(.int ((1 : Int32) + (1 : Int32))), (.int (0 : Int32)), (.ref (oo 6)), (.int (1 : Int32)), (.ref (oo 5))])) _
    rw [(by decide : ((1 : Int32) + (1 : Int32)) = (2 : Int32))]
    show Steps p.tables e below (T213.setTop (mkF m 105 #[.val (.ref (oo 0)), .val (.int (2 : Int32)), .val (.int (1 : Int32)), .val (.int (2 : Int32))] [(.int (2 : Int32)), (.int (0 : Int32)), (.ref (oo 6)), (.int (1 : Int32)), (.ref (oo 5))])) _
    exact k
  obtain ⟨cl216, Ar216, q216, S216, M216, H216, G216⟩ := id f209
  have hin216 : ¬ ((0 : Int32) < 0 ∨ cl216.slots.size ≤ ((0 : Int32)).toNatClampNeg) := inb_of S216 ⟨by decide, by decide⟩
  obtain ⟨T216, h216, X216, e216, W216, st216⟩ := stI X213 hx hZ e213 Ar216 (j := (0 : Int32)) hin216 (g := (mkF m 105 #[.val (.ref (oo 0)), .val (.int (2 : Int32)), .val (.int (1 : Int32)), .val (.int (2 : Int32))] [(.int (2 : Int32)), (.int (0 : Int32)), (.ref (oo 6)), (.int (1 : Int32)), (.ref (oo 5))])) rfl rfl (hb hby d6_105)
  have fa216 : Arv Z h216 (oo 6) (kk 6) .int (16 : Int32) [(.int (2 : Int32)), (.int t1), (.int t2)] (.int (0 : Int32)) := Arv.set Ar216 q216 S216 M216 H216 G216 rfl W216 0 rfl (Nat.le_of_ble_eq_true rfl)
  have f217 := f193.wr W216
  have f218 := f194.other W216 (Or.inl (hne 0 6 (by decide) (by decide) (by decide)))
  have f219 := f195.other W216 (Or.inl (hne 0 6 (by decide) (by decide) (by decide)))
  have f220 := f196.other W216 (Or.inl (hne 0 6 (by decide) (by decide) (by decide)))
  have f221 := f197.other W216 (Or.inl (hne 0 6 (by decide) (by decide) (by decide)))
  have f222 := f198.other W216 (Or.inl (hne 0 6 (by decide) (by decide) (by decide)))
  have f223 := f199.other W216 (Or.inl (hne 0 6 (by decide) (by decide) (by decide)))
  have f224 := f200.other W216 (Or.inl (hne 0 6 (by decide) (by decide) (by decide)))
  have f225 := f201.other W216 (Or.inl (hne 0 6 (by decide) (by decide) (by decide)))
  have f226 := f202.other W216 (Or.inl (hne 0 6 (by decide) (by decide) (by decide)))
  have f227 := f203.other W216 (hne 1 6 (by decide) (by decide) (by decide))
  have f228 := f204.other W216 (hne 2 6 (by decide) (by decide) (by decide))
  have f229 := f205.other W216 (hne 3 6 (by decide) (by decide) (by decide))
  have f230 := f206.other W216 (hne 7 6 (by decide) (by decide) (by decide))
  have f231 := Nat.le_trans f207 (Keep.of_wr W216).1
  have f232 := f208.other W216 (hne 4 6 (by decide) (by decide) (by decide))
  have f233 := fa192.other W216 (hne 5 6 (by decide) (by decide) (by decide))
  have N216 := Fr.snoc X216 N192 (hn 6 (by decide))
  refine EndsQ.go st216 ?_
  show EndsQ _ _ _ _ _ _ _ (T216.setTop (mkF m 106 #[.val (.ref (oo 0)), .val (.int (2 : Int32)), .val (.int (1 : Int32)), .val (.int (2 : Int32))] [(.int (1 : Int32)), (.ref (oo 5))]))
  refine EndsQ.go (b := T216.setTop (mkF m 107 #[.val (.ref (oo 0)), .val (.int (2 : Int32)), .val (.int (1 : Int32)), .val (.int (2 : Int32))] [(.ref (oo 0)), (.int (1 : Int32)), (.ref (oo 5))])) (fun t k => ?_) ?_
  · show Steps p.tables e below (T216.setTop (mkF m 106 #[.val (.ref (oo 0)), .val (.int (2 : Int32)), .val (.int (1 : Int32)), .val (.int (2 : Int32))] [(.int (1 : Int32)), (.ref (oo 5))])) _
    refine XS.aloadN X216.here hx rfl (hb hby d6_106) rfl rfl ?_
    exact k
  obtain ⟨T234, X234, e234, st234⟩ := getF X216 hx hZ hown (host := "") (Or.inl (hw _ (List.mem_of_getElem? (i := 15) rfl))) Via.refl e216 f220 (g := (mkF m 107 #[.val (.ref (oo 0)), .val (.int (2 : Int32)), .val (.int (1 : Int32)), .val (.int (2 : Int32))] [(.ref (oo 0)), (.int (1 : Int32)), (.ref (oo 5))])) rfl rfl (hb hby d6_107)
  refine EndsQ.go st234 ?_
  show EndsQ _ _ _ _ _ _ _ (T234.setTop (mkF m 110 #[.val (.ref (oo 0)), .val (.int (2 : Int32)), .val (.int (1 : Int32)), .val (.int (2 : Int32))] [(.ref (oo 3)), (.int (1 : Int32)), (.ref (oo 5))]))
  refine EndsQ.go (b := T234.setTop (mkF m 111 #[.val (.ref (oo 0)), .val (.int (2 : Int32)), .val (.int (1 : Int32)), .val (.int (2 : Int32))] [(.int (1 : Int32)), (.ref (oo 3)), (.int (1 : Int32)), (.ref (oo 5))])) (fun t k => ?_) ?_
  · show Steps p.tables e below (T234.setTop (mkF m 110 #[.val (.ref (oo 0)), .val (.int (2 : Int32)), .val (.int (1 : Int32)), .val (.int (2 : Int32))] [(.ref (oo 3)), (.int (1 : Int32)), (.ref (oo 5))])) _
    refine XS.iloadN X234.here hx rfl (hb hby d6_110) rfl ?_
    show Steps p.tables e below (T234.setTop (mkF m 111 #[.val (.ref (oo 0)), .val (.int (2 : Int32)), .val (.int (1 : Int32)), .val (.int (2 : Int32))] [(.int (1 : Int32)), (.ref (oo 3)), (.int (1 : Int32)), (.ref (oo 5))])) _
    exact k
  obtain ⟨cl235, Ar235, q235, S235, M235, H235, G235⟩ := id f229
  have hin235 : ¬ ((1 : Int32) < 0 ∨ cl235.slots.size ≤ ((1 : Int32)).toNatClampNeg) := inb_of S235 ⟨by decide, by decide⟩
  have hat235 : cl235.slots[((1 : Int32)).toNatClampNeg]? = some (.double (FP.l2d x1)) := Has.at H235 hin235 rfl
  refine EndsQ.go (fun t k => X234.daload hx (j := (1 : Int32)) (v := (.double (FP.l2d x1))) (by rw [e234]; exact Ar235.1) (State.isArrayOf_alike hZ.alike Ar235.2.1) Ar235.2.2 hin235 hat235 (g := (mkF m 111 #[.val (.ref (oo 0)), .val (.int (2 : Int32)), .val (.int (1 : Int32)), .val (.int (2 : Int32))] [(.int (1 : Int32)), (.ref (oo 3)), (.int (1 : Int32)), (.ref (oo 5))])) rfl rfl (hb hby d6_111) _ k) ?_
  show EndsQ _ _ _ _ _ _ _ (T234.setTop (mkF m 112 #[.val (.ref (oo 0)), .val (.int (2 : Int32)), .val (.int (1 : Int32)), .val (.int (2 : Int32))] [(.double (FP.l2d x1)), (.int (1 : Int32)), (.ref (oo 5))]))
  obtain ⟨cl236, Ar236, q236, S236, M236, H236, G236⟩ := id f233
  have hin236 : ¬ ((1 : Int32) < 0 ∨ cl236.slots.size ≤ ((1 : Int32)).toNatClampNeg) := inb_of S236 ⟨by decide, by decide⟩
  obtain ⟨T236, h236, X236, e236, W236, st236⟩ := stD X234 hx hZ e234 Ar236 (j := (1 : Int32)) hin236 (g := (mkF m 112 #[.val (.ref (oo 0)), .val (.int (2 : Int32)), .val (.int (1 : Int32)), .val (.int (2 : Int32))] [(.double (FP.l2d x1)), (.int (1 : Int32)), (.ref (oo 5))])) rfl rfl (hb hby d6_112)
  have fa236 : Arv Z h236 (oo 5) (kk 5) .double (64 : Int32) [(.double (FP.l2d x0)), (.double (FP.l2d x1)), (.double g2)] (.double (0 : UInt64)) := Arv.set Ar236 q236 S236 M236 H236 G236 rfl W236 1 rfl (Nat.le_of_ble_eq_true rfl)
  have f237 := f217.wr W236
  have f238 := f218.other W236 (Or.inl (hne 0 5 (by decide) (by decide) (by decide)))
  have f239 := f219.other W236 (Or.inl (hne 0 5 (by decide) (by decide) (by decide)))
  have f240 := f220.other W236 (Or.inl (hne 0 5 (by decide) (by decide) (by decide)))
  have f241 := f221.other W236 (Or.inl (hne 0 5 (by decide) (by decide) (by decide)))
  have f242 := f222.other W236 (Or.inl (hne 0 5 (by decide) (by decide) (by decide)))
  have f243 := f223.other W236 (Or.inl (hne 0 5 (by decide) (by decide) (by decide)))
  have f244 := f224.other W236 (Or.inl (hne 0 5 (by decide) (by decide) (by decide)))
  have f245 := f225.other W236 (Or.inl (hne 0 5 (by decide) (by decide) (by decide)))
  have f246 := f226.other W236 (Or.inl (hne 0 5 (by decide) (by decide) (by decide)))
  have f247 := f227.other W236 (hne 1 5 (by decide) (by decide) (by decide))
  have f248 := f228.other W236 (hne 2 5 (by decide) (by decide) (by decide))
  have f249 := f229.other W236 (hne 3 5 (by decide) (by decide) (by decide))
  have f250 := f230.other W236 (hne 7 5 (by decide) (by decide) (by decide))
  have f251 := Nat.le_trans f231 (Keep.of_wr W236).1
  have f252 := f232.other W236 (hne 4 5 (by decide) (by decide) (by decide))
  have f253 := fa216.other W236 (hne 6 5 (by decide) (by decide) (by decide))
  have N236 := Fr.snoc X236 N216 (hn 5 (by decide))
  refine EndsQ.go st236 ?_
  show EndsQ _ _ _ _ _ _ _ (T236.setTop (mkF m 113 #[.val (.ref (oo 0)), .val (.int (2 : Int32)), .val (.int (1 : Int32)), .val (.int (2 : Int32))] []))
  refine EndsQ.go (b := T236.setTop (mkF m 80 #[.val (.ref (oo 0)), .val (.int (2 : Int32)), .val (.int (2 : Int32)), .val (.int (2 : Int32))] [(.ref (oo 0)), (.int (2 : Int32))])) (fun t k => ?_) ?_
  · show Steps p.tables e below (T236.setTop (mkF m 113 #[.val (.ref (oo 0)), .val (.int (2 : Int32)), .val (.int (1 : Int32)), .val (.int (2 : Int32))] [])) _
    refine XS.iinc X236.here hx rfl (hb hby d6_113) rfl (l' := #[.val (.ref (oo 0)), .val (.int (2 : Int32)), .val (.int ((1 : Int32) + Int32.ofInt 1)), .val (.int (2 : Int32))]) rfl ?_
    show Steps p.tables e below (T236.setTop (mkF m 116 #[.val (.ref (oo 0)), .val (.int (2 : Int32)), .val (.int ((1 : Int32) + Int32.ofInt 1)), .val (.int (2 : Int32))] [])) _
    rw [(by decide : ((1 : Int32) + Int32.ofInt 1) = (2 : Int32))]
    show Steps p.tables e below (T236.setTop (mkF m 116 #[.val (.ref (oo 0)), .val (.int (2 : Int32)), .val (.int (2 : Int32)), .val (.int (2 : Int32))] [])) _
    refine XS.goto X236.here hx rfl (pc0 := 116) (pc' := 78) rfl (hb hby d6_116) (by decide) (by decide) ?_
    refine XS.iloadN X236.here hx rfl (hb hby d6_78) rfl ?_
    refine XS.aloadN X236.here hx rfl (hb hby d6_79) rfl rfl ?_
    show Steps p.tables e below (T236.setTop (mkF m 80 #[.val (.ref (oo 0)), .val (.int (2 : Int32)), .val (.int (2 : Int32)), .val (.int (2 : Int32))] [(.ref (oo 0)), (.int (2 : Int32))])) _
    exact k
  obtain ⟨T254, X254, e254, st254⟩ := getF X236 hx hZ hown (host := "") (Or.inl (hw _ (List.mem_of_getElem? (i := 35) rfl))) Via.refl e236 f246 (g := (mkF m 80 #[.val (.ref (oo 0)), .val (.int (2 : Int32)), .val (.int (2 : Int32)), .val (.int (2 : Int32))] [(.ref (oo 0)), (.int (2 : Int32))])) rfl rfl (hb hby d6_80)
  refine EndsQ.go st254 ?_
  show EndsQ _ _ _ _ _ _ _ (T254.setTop (mkF m 83 #[.val (.ref (oo 0)), .val (.int (2 : Int32)), .val (.int (2 : Int32)), .val (.int (2 : Int32))] [(.int (2 : Int32)), (.int (2 : Int32))]))
  refine EndsQ.go (b := T254.setTop (mkF m 123 #[.val (.ref (oo 0)), .val (.int (2 : Int32)), .val (.int (0 : Int32)), .val (.int (2 : Int32))] [(.ref (oo 0)), (.int (0 : Int32))])) (fun t k => ?_) ?_
  · show Steps p.tables e below (T254.setTop (mkF m 83 #[.val (.ref (oo 0)), .val (.int (2 : Int32)), .val (.int (2 : Int32)), .val (.int (2 : Int32))] [(.int (2 : Int32)), (.int (2 : Int32))])) _
    refine XS.icmpYes X254.here hx rfl (pc0 := 83) (pc' := 119) rfl (hb hby d6_83) rfl (flt (by decide)).2.1 (by decide) (by decide) ?_
    show Steps p.tables e below (T254.setTop (mkF m 119 #[.val (.ref (oo 0)), .val (.int (2 : Int32)), .val (.int (2 : Int32)), .val (.int (2 : Int32))] [])) _
    refine XS.iconst X254.here hx rfl (hb hby d6_119) ?_
    refine XS.istoreN X254.here hx rfl (hb hby d6_120) rfl (l' := #[.val (.ref (oo 0)), .val (.int (2 : Int32)), .val (.int (0 : Int32)), .val (.int (2 : Int32))]) rfl ?_
    refine XS.iloadN X254.here hx rfl (hb hby d6_121) rfl ?_
    refine XS.aloadN X254.here hx rfl (hb hby d6_122) rfl rfl ?_
    show Steps p.tables e below (T254.setTop (mkF m 123 #[.val (.ref (oo 0)), .val (.int (2 : Int32)), .val (.int (0 : Int32)), .val (.int (2 : Int32))] [(.ref (oo 0)), (.int (0 : Int32))])) _
    exact k
  obtain ⟨T255, X255, e255, st255⟩ := getF X254 hx hZ hown (host := "") (Or.inl (hw _ (List.mem_of_getElem? (i := 37) rfl))) Via.refl e254 f245 (g := (mkF m 123 #[.val (.ref (oo 0)), .val (.int (2 : Int32)), .val (.int (0 : Int32)), .val (.int (2 : Int32))] [(.ref (oo 0)), (.int (0 : Int32))])) rfl rfl (hb hby d6_123)
  refine EndsQ.go st255 ?_
  show EndsQ _ _ _ _ _ _ _ (T255.setTop (mkF m 126 #[.val (.ref (oo 0)), .val (.int (2 : Int32)), .val (.int (0 : Int32)), .val (.int (2 : Int32))] [(.int (1 : Int32)), (.int (0 : Int32))]))
  refine EndsQ.go (b := T255.setTop (mkF m 130 #[.val (.ref (oo 0)), .val (.int (2 : Int32)), .val (.int (0 : Int32)), .val (.int (2 : Int32))] [(.ref (oo 0))])) (fun t k => ?_) ?_
  · show Steps p.tables e below (T255.setTop (mkF m 126 #[.val (.ref (oo 0)), .val (.int (2 : Int32)), .val (.int (0 : Int32)), .val (.int (2 : Int32))] [(.int (1 : Int32)), (.int (0 : Int32))])) _
    refine XS.icmpNo X255.here hx rfl (hb hby d6_126) rfl (tlt (by decide)).2.1 ?_
    show Steps p.tables e below (T255.setTop (mkF m 129 #[.val (.ref (oo 0)), .val (.int (2 : Int32)), .val (.int (0 : Int32)), .val (.int (2 : Int32))] [])) _
    refine XS.aloadN X255.here hx rfl (hb hby d6_129) rfl rfl ?_
    exact k
  obtain ⟨T256, X256, e256, st256⟩ := getF X255 hx hZ hown (host := "") (Or.inl (hw _ (List.mem_of_getElem? (i := 21) rfl))) Via.refl e255 f243 (g := (mkF m 130 #[.val (.ref (oo 0)), .val (.int (2 : Int32)), .val (.int (0 : Int32)), .val (.int (2 : Int32))] [(.ref (oo 0))])) rfl rfl (hb hby d6_130)
  refine EndsQ.go st256 ?_
  show EndsQ _ _ _ _ _ _ _ (T256.setTop (mkF m 133 #[.val (.ref (oo 0)), .val (.int (2 : Int32)), .val (.int (0 : Int32)), .val (.int (2 : Int32))] [(.ref (oo 6))]))
  refine EndsQ.go (b := T256.setTop (mkF m 135 #[.val (.ref (oo 0)), .val (.int (2 : Int32)), .val (.int (0 : Int32)), .val (.int (2 : Int32))] [(.int (0 : Int32)), (.int (0 : Int32)), (.ref (oo 6))])) (fun t k => ?_) ?_
  · show Steps p.tables e below (T256.setTop (mkF m 133 #[.val (.ref (oo 0)), .val (.int (2 : Int32)), .val (.int (0 : Int32)), .val (.int (2 : Int32))] [(.ref (oo 6))])) _
    refine XS.iloadN X256.here hx rfl (hb hby d6_133) rfl ?_
    refine XS.iconst X256.here hx rfl (hb hby d6_134) ?_
    exact k
  obtain ⟨cl257, Ar257, q257, S257, M257, H257, G257⟩ := id f253
  have hin257 : ¬ ((0 : Int32) < 0 ∨ cl257.slots.size ≤ ((0 : Int32)).toNatClampNeg) := inb_of S257 ⟨by decide, by decide⟩
  obtain ⟨T257, h257, X257, e257, W257, st257⟩ := stI X256 hx hZ e256 Ar257 (j := (0 : Int32)) hin257 (g := (mkF m 135 #[.val (.ref (oo 0)), .val (.int (2 : Int32)), .val (.int (0 : Int32)), .val (.int (2 : Int32))] [(.int (0 : Int32)), (.int (0 : Int32)), (.ref (oo 6))])) rfl rfl (hb hby d6_135)
  have fa257 : Arv Z h257 (oo 6) (kk 6) .int (16 : Int32) [(.int (0 : Int32)), (.int t1), (.int t2)] (.int (0 : Int32)) := Arv.set Ar257 q257 S257 M257 H257 G257 rfl W257 0 rfl (Nat.le_of_ble_eq_true rfl)
  have f258 := f237.wr W257
  have f259 := f238.other W257 (Or.inl (hne 0 6 (by decide) (by decide) (by decide)))
  have f260 := f239.other W257 (Or.inl (hne 0 6 (by decide) (by decide) (by decide)))
  have f261 := f240.other W257 (Or.inl (hne 0 6 (by decide) (by decide) (by decide)))
  have f262 := f241.other W257 (Or.inl (hne 0 6 (by decide) (by decide) (by decide)))
  have f263 := f242.other W257 (Or.inl (hne 0 6 (by decide) (by decide) (by decide)))
  have f264 := f243.other W257 (Or.inl (hne 0 6 (by decide) (by decide) (by decide)))
  have f265 := f244.other W257 (Or.inl (hne 0 6 (by decide) (by decide) (by decide)))
  have f266 := f245.other W257 (Or.inl (hne 0 6 (by decide) (by decide) (by decide)))
  have f267 := f246.other W257 (Or.inl (hne 0 6 (by decide) (by decide) (by decide)))
  have f268 := f247.other W257 (hne 1 6 (by decide) (by decide) (by decide))
  have f269 := f248.other W257 (hne 2 6 (by decide) (by decide) (by decide))
  have f270 := f249.other W257 (hne 3 6 (by decide) (by decide) (by decide))
  have f271 := f250.other W257 (hne 7 6 (by decide) (by decide) (by decide))
  have f272 := Nat.le_trans f251 (Keep.of_wr W257).1
  have f273 := f252.other W257 (hne 4 6 (by decide) (by decide) (by decide))
  have f274 := fa236.other W257 (hne 5 6 (by decide) (by decide) (by decide))
  have N257 := Fr.snoc X257 N236 (hn 6 (by decide))
  refine EndsQ.go st257 ?_
  show EndsQ _ _ _ _ _ _ _ (T257.setTop (mkF m 136 #[.val (.ref (oo 0)), .val (.int (2 : Int32)), .val (.int (0 : Int32)), .val (.int (2 : Int32))] []))
  refine EndsQ.go (b := T257.setTop (mkF m 138 #[.val (.ref (oo 0)), .val (.int (2 : Int32)), .val (.int (0 : Int32)), .val (.int (2 : Int32))] [(.int (0 : Int32)), (.ref (oo 0))])) (fun t k => ?_) ?_
  · show Steps p.tables e below (T257.setTop (mkF m 136 #[.val (.ref (oo 0)), .val (.int (2 : Int32)), .val (.int (0 : Int32)), .val (.int (2 : Int32))] [])) _
    refine XS.aloadN X257.here hx rfl (hb hby d6_136) rfl rfl ?_
    show Steps p.tables e below (T257.setTop (mkF m 137 #[.val (.ref (oo 0)), .val (.int (2 : Int32)), .val (.int (0 : Int32)), .val (.int (2 : Int32))] [(.ref (oo 0))])) _
    refine XS.iloadN X257.here hx rfl (hb hby d6_137) rfl ?_
    exact k
  obtain ⟨cq275, kq275, qa275, qb275, qc275⟩ := isOf hZ e257 f258
  obtain ⟨_, _, ⟨T275, L275, kk275, nn275⟩, -, X275, ⟨Lc275, hQ275, l275, y275, z275⟩, st275⟩ := X257.virtualBack hx (y := (⟨"com/example/physarum/physarum/Proposals", "count", "(I)I"⟩ : MethodName)) (z := (⟨"com/example/physarum/physarum/Proposals", "count", "(I)I"⟩ : MethodName)) hown (mvT hZ (hw _ (List.mem_of_getElem? (i := 50) rfl))) (mvT hZ (hw _ (List.mem_of_getElem? (i := 51) rfl))) (notFace_of_selects (args := #[]) (mvT hZ (hw _ (List.mem_of_getElem? (i := 53) rfl)))) (mvT hZ (hw _ (List.mem_of_getElem? (i := 53) rfl))) (mvT hZ (hw _ (List.mem_of_getElem? (i := 52) rfl))) (by decide) (backOf (W := 0) (rmCo0 l Z a0 hw [] oo kk c0 c1 c2 (0 : Int32) (0 : Int32) r2 (FP.l2d x0) (FP.l2d x1) d2 (0 : Int32) (2 : Int32) s2 (FP.l2d x0) (FP.l2d x1) g2 (0 : Int32) t1 t2 vx (1 : Int32) (2 : Int32) h257 n0 f272 hne hn ⟨f258, f259, f260, f261, f262, f263, f264, f265, f266, f267, f268, f269, f270, f273, f274, fa257, f271⟩) hZ (hw _ (List.mem_of_getElem? (i := 54) rfl)) (hw _ (List.mem_of_getElem? (i := 2) rfl)) (by decide) (by decide)) qa275 qc275 (g := (mkF m 138 #[.val (.ref (oo 0)), .val (.int (2 : Int32)), .val (.int (0 : Int32)), .val (.int (2 : Int32))] [(.int (0 : Int32)), (.ref (oo 0))])) rfl (by rw [hml]; rfl) (Steps.refl _) (argsL := [(.int (0 : Int32))]) (rest := []) (lenOf pd_1 rfl) rfl (by show 2 * 0 + _ ≤ _; exact Nat.le_of_eq rfl) (hb hby d6_138) (fun _ _ => ⟨rfl, e257, (by decide : 0 + 0 ≤ _), (by decide : 0 + 0 ≤ _)⟩)
  dsimp only [Pt.U, Pt.locs, Pt.cells, Pt.slots] at X275 l275 y275 z275 st275 hQ275
  subst l275 y275 z275
  obtain ⟨rfl, Nq275, eq275⟩ := hQ275
  have N275 := Fr.app N257 Nq275
  refine EndsQ.go (fun t k => st275.trans k) ?_
  show EndsQ _ _ _ _ _ _ _ (T275.setTop (mkF m 141 #[.val (.ref (oo 0)), .val (.int (2 : Int32)), .val (.int (0 : Int32)), .val (.int (2 : Int32))] [(.int ((2 : Int32) - (0 : Int32)))]))
  rw [(by decide : ((2 : Int32) - (0 : Int32)) = (2 : Int32))]
  show EndsQ _ _ _ _ _ _ _ (T275.setTop (mkF m 141 #[.val (.ref (oo 0)), .val (.int (2 : Int32)), .val (.int (0 : Int32)), .val (.int (2 : Int32))] [(.int (2 : Int32))]))
  refine EndsQ.go (b := T275.setTop (mkF m 152 #[.val (.ref (oo 0)), .val (.int (2 : Int32)), .val (.int (0 : Int32)), .val (.int (0 : Int32))] [(.ref (oo 0)), (.ref (oo 0))])) (fun t k => ?_) ?_
  · show Steps p.tables e below (T275.setTop (mkF m 141 #[.val (.ref (oo 0)), .val (.int (2 : Int32)), .val (.int (0 : Int32)), .val (.int (2 : Int32))] [(.int (2 : Int32))])) _
    refine XS.iconst X275.here hx rfl (hb hby d6_141) ?_
    refine XS.idiv X275.here hx rfl (hb hby d6_142) rfl (by decide) ?_
    show Steps p.tables e below (T275.setTop (mkF m 143 #[.val (.ref (oo 0)), .val (.int (2 : Int32)), .val (.int (0 : Int32)), .val (.int (2 : Int32))] [(.int ((2 : Int32) / (2 : Int32)))])) _
    rw [(by decide : ((2 : Int32) / (2 : Int32)) = (1 : Int32))]
    show Steps p.tables e below (T275.setTop (mkF m 143 #[.val (.ref (oo 0)), .val (.int (2 : Int32)), .val (.int (0 : Int32)), .val (.int (2 : Int32))] [(.int (1 : Int32))])) _
    refine XS.iconst X275.here hx rfl (hb hby d6_143) ?_
    show Steps p.tables e below (T275.setTop (mkF m 144 #[.val (.ref (oo 0)), .val (.int (2 : Int32)), .val (.int (0 : Int32)), .val (.int (2 : Int32))] [(.int (1 : Int32)), (.int (1 : Int32))])) _
    refine XS.isub X275.here hx rfl (hb hby d6_144) rfl ?_
    show Steps p.tables e below (T275.setTop (mkF m 145 #[.val (.ref (oo 0)), .val (.int (2 : Int32)), .val (.int (0 : Int32)), .val (.int (2 : Int32))] [(.int ((1 : Int32) - (1 : Int32)))])) _
    rw [(by decide : ((1 : Int32) - (1 : Int32)) = (0 : Int32))]
    show Steps p.tables e below (T275.setTop (mkF m 145 #[.val (.ref (oo 0)), .val (.int (2 : Int32)), .val (.int (0 : Int32)), .val (.int (2 : Int32))] [(.int (0 : Int32))])) _
    refine XS.istoreN X275.here hx rfl (hb hby d6_145) rfl (l' := #[.val (.ref (oo 0)), .val (.int (2 : Int32)), .val (.int (0 : Int32)), .val (.int (0 : Int32))]) rfl ?_
    refine XS.iloadN X275.here hx rfl (hb hby d6_146) rfl ?_
    refine XS.ifNo X275.here hx rfl (hb hby d6_147) rfl ((if0 _ _).trans (flt (by decide)).1) ?_
    show Steps p.tables e below (T275.setTop (mkF m 150 #[.val (.ref (oo 0)), .val (.int (2 : Int32)), .val (.int (0 : Int32)), .val (.int (0 : Int32))] [])) _
    refine XS.aloadN X275.here hx rfl (hb hby d6_150) rfl rfl ?_
    show Steps p.tables e below (T275.setTop (mkF m 151 #[.val (.ref (oo 0)), .val (.int (2 : Int32)), .val (.int (0 : Int32)), .val (.int (0 : Int32))] [(.ref (oo 0))])) _
    refine XS.aloadN X275.here hx rfl (hb hby d6_151) rfl rfl ?_
    exact k
  obtain ⟨T276, X276, e276, st276⟩ := getF X275 hx hZ hown (host := "") (Or.inl (hw _ (List.mem_of_getElem? (i := 17) rfl))) Via.refl eq275 f262 (g := (mkF m 152 #[.val (.ref (oo 0)), .val (.int (2 : Int32)), .val (.int (0 : Int32)), .val (.int (0 : Int32))] [(.ref (oo 0)), (.ref (oo 0))])) rfl rfl (hb hby d6_152)
  refine EndsQ.go st276 ?_
  show EndsQ _ _ _ _ _ _ _ (T276.setTop (mkF m 155 #[.val (.ref (oo 0)), .val (.int (2 : Int32)), .val (.int (0 : Int32)), .val (.int (0 : Int32))] [(.ref (oo 4)), (.ref (oo 0))]))
  refine EndsQ.go (b := T276.setTop (mkF m 156 #[.val (.ref (oo 0)), .val (.int (2 : Int32)), .val (.int (0 : Int32)), .val (.int (0 : Int32))] [(.int (0 : Int32)), (.ref (oo 4)), (.ref (oo 0))])) (fun t k => ?_) ?_
  · show Steps p.tables e below (T276.setTop (mkF m 155 #[.val (.ref (oo 0)), .val (.int (2 : Int32)), .val (.int (0 : Int32)), .val (.int (0 : Int32))] [(.ref (oo 4)), (.ref (oo 0))])) _
    refine XS.iloadN X276.here hx rfl (hb hby d6_155) rfl ?_
    exact k
  obtain ⟨cl277, Ar277, q277, S277, M277, H277, G277⟩ := id f273
  have hin277 : ¬ ((0 : Int32) < 0 ∨ cl277.slots.size ≤ ((0 : Int32)).toNatClampNeg) := inb_of S277 ⟨by decide, by decide⟩
  have hat277 : cl277.slots[((0 : Int32)).toNatClampNeg]? = some (.int (0 : Int32)) := Has.at H277 hin277 rfl
  refine EndsQ.go (fun t k => X276.iaload hx (j := (0 : Int32)) (v := (.int (0 : Int32))) (by rw [e276]; exact Ar277.1) (State.isArrayOf_alike hZ.alike Ar277.2.1) Ar277.2.2 hin277 hat277 (g := (mkF m 156 #[.val (.ref (oo 0)), .val (.int (2 : Int32)), .val (.int (0 : Int32)), .val (.int (0 : Int32))] [(.int (0 : Int32)), (.ref (oo 4)), (.ref (oo 0))])) rfl rfl (hb hby d6_156) _ k) ?_
  show EndsQ _ _ _ _ _ _ _ (T276.setTop (mkF m 157 #[.val (.ref (oo 0)), .val (.int (2 : Int32)), .val (.int (0 : Int32)), .val (.int (0 : Int32))] [(.int (0 : Int32)), (.ref (oo 0))]))
  refine EndsQ.go (b := T276.setTop (mkF m 160 #[.val (.ref (oo 0)), .val (.int (2 : Int32)), .val (.int (0 : Int32)), .val (.int (0 : Int32))] [(.int (0 : Int32)), (.ref (oo 0)), (.int (0 : Int32)), (.int (0 : Int32)), (.ref (oo 0))])) (fun t k => ?_) ?_
  · show Steps p.tables e below (T276.setTop (mkF m 157 #[.val (.ref (oo 0)), .val (.int (2 : Int32)), .val (.int (0 : Int32)), .val (.int (0 : Int32))] [(.int (0 : Int32)), (.ref (oo 0))])) _
    refine XS.iloadN X276.here hx rfl (hb hby d6_157) rfl ?_
    refine XS.aloadN X276.here hx rfl (hb hby d6_158) rfl rfl ?_
    show Steps p.tables e below (T276.setTop (mkF m 159 #[.val (.ref (oo 0)), .val (.int (2 : Int32)), .val (.int (0 : Int32)), .val (.int (0 : Int32))] [(.ref (oo 0)), (.int (0 : Int32)), (.int (0 : Int32)), (.ref (oo 0))])) _
    refine XS.iloadN X276.here hx rfl (hb hby d6_159) rfl ?_
    exact k
  obtain ⟨cq278, kq278, qa278, qb278, qc278⟩ := isOf hZ e276 f258
  obtain ⟨_, _, ⟨T278, L278, kk278, nn278⟩, -, X278, ⟨Lc278, hQ278, l278, y278, z278⟩, st278⟩ := X276.virtualBack hx (y := (⟨"com/example/physarum/physarum/Proposals", "count", "(I)I"⟩ : MethodName)) (z := (⟨"com/example/physarum/physarum/Proposals", "count", "(I)I"⟩ : MethodName)) hown (mvT hZ (hw _ (List.mem_of_getElem? (i := 50) rfl))) (mvT hZ (hw _ (List.mem_of_getElem? (i := 51) rfl))) (notFace_of_selects (args := #[]) (mvT hZ (hw _ (List.mem_of_getElem? (i := 53) rfl)))) (mvT hZ (hw _ (List.mem_of_getElem? (i := 53) rfl))) (mvT hZ (hw _ (List.mem_of_getElem? (i := 52) rfl))) (by decide) (backOf (W := 3) (rmCo0 l Z a0 hw [] oo kk c0 c1 c2 (0 : Int32) (0 : Int32) r2 (FP.l2d x0) (FP.l2d x1) d2 (0 : Int32) (2 : Int32) s2 (FP.l2d x0) (FP.l2d x1) g2 (0 : Int32) t1 t2 vx (1 : Int32) (2 : Int32) h257 n0 f272 hne hn ⟨f258, f259, f260, f261, f262, f263, f264, f265, f266, f267, f268, f269, f270, f273, f274, fa257, f271⟩) hZ (hw _ (List.mem_of_getElem? (i := 54) rfl)) (hw _ (List.mem_of_getElem? (i := 2) rfl)) (by decide) (by decide)) qa278 qc278 (g := (mkF m 160 #[.val (.ref (oo 0)), .val (.int (2 : Int32)), .val (.int (0 : Int32)), .val (.int (0 : Int32))] [(.int (0 : Int32)), (.ref (oo 0)), (.int (0 : Int32)), (.int (0 : Int32)), (.ref (oo 0))])) rfl (by rw [hml]; rfl) (Steps.refl _) (argsL := [(.int (0 : Int32))]) (rest := [(.int (0 : Int32)), (.int (0 : Int32)), (.ref (oo 0))]) (lenOf pd_1 rfl) rfl (by show 2 * 0 + _ ≤ _; exact Nat.le_of_eq rfl) (hb hby d6_160) (fun _ _ => ⟨rfl, e276, (by decide : 0 + 0 ≤ _), (by decide : 0 + 0 ≤ _)⟩)
  dsimp only [Pt.U, Pt.locs, Pt.cells, Pt.slots] at X278 l278 y278 z278 st278 hQ278
  subst l278 y278 z278
  obtain ⟨rfl, Nq278, eq278⟩ := hQ278
  have N278 := Fr.app N275 Nq278
  refine EndsQ.go (fun t k => st278.trans k) ?_
  show EndsQ _ _ _ _ _ _ _ (T278.setTop (mkF m 163 #[.val (.ref (oo 0)), .val (.int (2 : Int32)), .val (.int (0 : Int32)), .val (.int (0 : Int32))] [(.int ((2 : Int32) - (0 : Int32))), (.int (0 : Int32)), (.int (0 : Int32)), (.ref (oo 0))]))
  rw [(by decide : ((2 : Int32) - (0 : Int32)) = (2 : Int32))]
  show EndsQ _ _ _ _ _ _ _ (T278.setTop (mkF m 163 #[.val (.ref (oo 0)), .val (.int (2 : Int32)), .val (.int (0 : Int32)), .val (.int (0 : Int32))] [(.int (2 : Int32)), (.int (0 : Int32)), (.int (0 : Int32)), (.ref (oo 0))]))
  obtain ⟨cq279, kq279, qa279, qb279, qc279⟩ := isOf hZ eq278 f258
  obtain ⟨cp279, qp279, qp279'⟩ := Exa.cell f258
  obtain ⟨ic279, ik279, i1279, i2279, -, i4279, -⟩ := Cond.instantiable_spec (mvT (args := #[]) hZ (hw _ (List.mem_of_getElem? (i := 1) rfl)))
  have hpv279 := Cond.privateMethod_at (mvP hZ (hw _ (List.mem_of_getElem? (i := 78) rfl)) (args := #[]))
  obtain ⟨_, _, ⟨T279, L279, kk279, nn279⟩, -, X279, ⟨Lc279, hQ279, l279, y279, z279⟩, st279⟩ := X278.privateBack hx (y := (⟨"com/example/physarum/physarum/Proposals", "siftDown", "(III)V"⟩ : MethodName)) hown (mvT hZ (hw _ (List.mem_of_getElem? (i := 76) rfl))) (mvT hZ (hw _ (List.mem_of_getElem? (i := 77) rfl))) (Jvm.Stand.selects_self_of_private i1279 i2279 (Bool.or_eq_false_iff.mp i4279).1 hpv279 (mvT hZ (hw _ (List.mem_of_getElem? (i := 77) rfl))) (by decide)) hpv279 (mvT hZ (hw _ (List.mem_of_getElem? (i := 79) rfl))) (by decide) (backOf (W := 0) (rmSift2 l Z a0 hw [] oo kk c0 c1 c2 (0 : Int32) (0 : Int32) r2 (FP.l2d x0) (FP.l2d x1) d2 (0 : Int32) (2 : Int32) s2 g2 (0 : Int32) t1 t2 vx (1 : Int32) (2 : Int32) x0 x1 h257 n0 f272 hne hn ⟨f258, f259, f260, f261, f262, f263, f264, f265, f266, f267, f268, f269, f270, f273, f274, fa257, f271⟩ hx0 hx1) hZ (hw _ (List.mem_of_getElem? (i := 79) rfl)) (hw _ (List.mem_of_getElem? (i := 2) rfl)) (by decide) (by decide)) (g := (mkF m 163 #[.val (.ref (oo 0)), .val (.int (2 : Int32)), .val (.int (0 : Int32)), .val (.int (0 : Int32))] [(.int (2 : Int32)), (.int (0 : Int32)), (.int (0 : Int32)), (.ref (oo 0))])) rfl (by rw [hml]; rfl) (Steps.refl _) (a := (oo 0)) (by rw [eq278]; exact qp279) qp279' (argsL := [(.int (0 : Int32)), (.int (0 : Int32)), (.int (2 : Int32))]) (rest := []) (lenOf pd_2 rfl) rfl (by show 2 * 0 + _ ≤ _; exact Nat.le_of_eq rfl) (hb hby d6_163) (fun _ _ => ⟨rfl, eq278, (by decide : 0 + 0 ≤ _), (by decide : 0 + 0 ≤ _)⟩)
  dsimp only [Pt.U, Pt.locs, Pt.cells, Pt.slots] at X279 l279 y279 z279 st279 hQ279
  subst l279 y279 z279
  obtain ⟨rfl, Nq279, hz279, HS279⟩ := hQ279
  have N279 := Fr.app N278 Nq279
  obtain ⟨SE_279, SF_candidates_279, SF_proposed_279, SF_confidences_279, SF_starts_279, SF_arranged_279, SF_taken_279, SF_indices_279, SF_cnt_279, SF_sz_279, SA_1_279, SA_2_279, SA_3_279, SA_4_279, SA_5_279, SA_6_279, SA_7_279⟩ := HS279
  refine EndsQ.go (fun t k => st279.trans k) ?_
  show EndsQ _ _ _ _ _ _ _ (T279.setTop (mkF m 166 #[.val (.ref (oo 0)), .val (.int (2 : Int32)), .val (.int (0 : Int32)), .val (.int (0 : Int32))] []))
  refine EndsQ.go (b := T279.setTop (mkF m 123 #[.val (.ref (oo 0)), .val (.int (2 : Int32)), .val (.int (1 : Int32)), .val (.int (-1 : Int32))] [(.ref (oo 0)), (.int (1 : Int32))])) (fun t k => ?_) ?_
  · show Steps p.tables e below (T279.setTop (mkF m 166 #[.val (.ref (oo 0)), .val (.int (2 : Int32)), .val (.int (0 : Int32)), .val (.int (0 : Int32))] [])) _
    refine XS.iinc X279.here hx rfl (hb hby d6_166) rfl (l' := #[.val (.ref (oo 0)), .val (.int (2 : Int32)), .val (.int (0 : Int32)), .val (.int ((0 : Int32) + Int32.ofInt (-1)))]) rfl ?_
    show Steps p.tables e below (T279.setTop (mkF m 169 #[.val (.ref (oo 0)), .val (.int (2 : Int32)), .val (.int (0 : Int32)), .val (.int ((0 : Int32) + Int32.ofInt (-1)))] [])) _
    rw [(by decide : ((0 : Int32) + Int32.ofInt (-1)) = (-1 : Int32))]
    show Steps p.tables e below (T279.setTop (mkF m 169 #[.val (.ref (oo 0)), .val (.int (2 : Int32)), .val (.int (0 : Int32)), .val (.int (-1 : Int32))] [])) _
    refine XS.goto X279.here hx rfl (pc0 := 169) (pc' := 146) rfl (hb hby d6_169) (by decide) (by decide) ?_
    refine XS.iloadN X279.here hx rfl (hb hby d6_146) rfl ?_
    show Steps p.tables e below (T279.setTop (mkF m 147 #[.val (.ref (oo 0)), .val (.int (2 : Int32)), .val (.int (0 : Int32)), .val (.int (-1 : Int32))] [(.int (-1 : Int32))])) _
    refine XS.ifYes X279.here hx rfl (pc0 := 147) (pc' := 172) rfl (hb hby d6_147) rfl ((if0 _ _).trans (tlt (by decide)).1) (by decide) (by decide) ?_
    show Steps p.tables e below (T279.setTop (mkF m 172 #[.val (.ref (oo 0)), .val (.int (2 : Int32)), .val (.int (0 : Int32)), .val (.int (-1 : Int32))] [])) _
    refine XS.iinc X279.here hx rfl (hb hby d6_172) rfl (l' := #[.val (.ref (oo 0)), .val (.int (2 : Int32)), .val (.int ((0 : Int32) + Int32.ofInt 1)), .val (.int (-1 : Int32))]) rfl ?_
    show Steps p.tables e below (T279.setTop (mkF m 175 #[.val (.ref (oo 0)), .val (.int (2 : Int32)), .val (.int ((0 : Int32) + Int32.ofInt 1)), .val (.int (-1 : Int32))] [])) _
    rw [(by decide : ((0 : Int32) + Int32.ofInt 1) = (1 : Int32))]
    show Steps p.tables e below (T279.setTop (mkF m 175 #[.val (.ref (oo 0)), .val (.int (2 : Int32)), .val (.int (1 : Int32)), .val (.int (-1 : Int32))] [])) _
    refine XS.goto X279.here hx rfl (pc0 := 175) (pc' := 121) rfl (hb hby d6_175) (by decide) (by decide) ?_
    refine XS.iloadN X279.here hx rfl (hb hby d6_121) rfl ?_
    refine XS.aloadN X279.here hx rfl (hb hby d6_122) rfl rfl ?_
    show Steps p.tables e below (T279.setTop (mkF m 123 #[.val (.ref (oo 0)), .val (.int (2 : Int32)), .val (.int (1 : Int32)), .val (.int (-1 : Int32))] [(.ref (oo 0)), (.int (1 : Int32))])) _
    exact k
  obtain ⟨T280, X280, e280, st280⟩ := getF X279 hx hZ hown (host := "") (Or.inl (hw _ (List.mem_of_getElem? (i := 37) rfl))) Via.refl rfl SF_cnt_279 (g := (mkF m 123 #[.val (.ref (oo 0)), .val (.int (2 : Int32)), .val (.int (1 : Int32)), .val (.int (-1 : Int32))] [(.ref (oo 0)), (.int (1 : Int32))])) rfl rfl (hb hby d6_123)
  refine EndsQ.go st280 ?_
  show EndsQ _ _ _ _ _ _ _ (T280.setTop (mkF m 126 #[.val (.ref (oo 0)), .val (.int (2 : Int32)), .val (.int (1 : Int32)), .val (.int (-1 : Int32))] [(.int (1 : Int32)), (.int (1 : Int32))]))
  refine EndsQ.go (b := T280.setTop (mkF m 178 #[.val (.ref (oo 0)), .val (.int (2 : Int32)), .val (.int (1 : Int32)), .val (.int (-1 : Int32))] [])) (fun t k => ?_) ?_
  · show Steps p.tables e below (T280.setTop (mkF m 126 #[.val (.ref (oo 0)), .val (.int (2 : Int32)), .val (.int (1 : Int32)), .val (.int (-1 : Int32))] [(.int (1 : Int32)), (.int (1 : Int32))])) _
    refine XS.icmpYes X280.here hx rfl (pc0 := 126) (pc' := 178) rfl (hb hby d6_126) rfl (flt (by decide)).2.1 (by decide) (by decide) ?_
    show Steps p.tables e below (T280.setTop (mkF m 178 #[.val (.ref (oo 0)), .val (.int (2 : Int32)), .val (.int (1 : Int32)), .val (.int (-1 : Int32))] [])) _
    exact k
  refine EndsQ.retV X280 hx Bd.notSynchronized Bd.returns (hb hby d6_178) (by decide) (by decide) ?_
  show QArr1 Z oo kk c0 c1 c2 r2 d2 s1 s2 g0 g1 g2 t0 t1 t2 vx x0 x1 h0 n0 (none) T280.heap _
  rw [e280]
  exact ⟨rfl, N279, hz279, ⟨SE_279, SF_candidates_279, SF_proposed_279, SF_confidences_279, SF_starts_279, SF_arranged_279, SF_taken_279, SF_indices_279, SF_cnt_279, SF_sz_279, SA_1_279, SA_2_279, SA_3_279, SA_4_279, SA_5_279, SA_6_279, SA_7_279⟩⟩
theorem ef_Arr2 (m : MethodId) (x0 : Addr) : entryFrame m #[(.ref x0)] 4 = mkF m 0 #[.val (.ref x0), .unset, .unset, .unset] [] := by first | (simp [entryFrame, mkF, argsToLocals, Value.category]; done) | rfl
def QArr2 (Z : State) (oo : Nat → Addr) (kk : Nat → ClassId) (c0 : Int32) (c1 : Int32) (c2 : Int32) (r2 : Int32) (d0 : UInt64) (d1 : UInt64) (d2 : UInt64) (s2 : Int32) (g0 : UInt64) (g1 : UInt64) (g2 : UInt64) (t0 : Int32) (t1 : Int32) (t2 : Int32) (vx : List Value) (h0 : Heap) (n0 : Nat) (v : Option Value) (h : Heap) (L : List Loc) : Prop := v = none ∧ Fr n0 L ∧ n0 ≤ h.size ∧ own_St Z h oo kk (2 : Int32) (2 : Int32) [(.int c0), (.int c1), (.int c2)] [(.int (0 : Int32)), (.int (1 : Int32)), (.int r2)] [(.double d0), (.double d1), (.double d2)] [(.int (0 : Int32)), (.int (1 : Int32)), (.int (2 : Int32))] [(.double d0), (.double d1), (.double g2)] [(.int (0 : Int32)), (.int (0 : Int32)), (.int t2)] vx
set_option maxRecDepth 65536 in
set_option maxHeartbeats 40000000 in
theorem rmArr2 (l : Launch) (Z : State) (a0 : Array Value) (hw : ∀ d ∈ tables_1, d.before a0 Z = true) (ws : List Jvm.Cond) (oo : Nat → Addr) (kk : Nat → ClassId) (c0 : Int32) (c1 : Int32) (c2 : Int32) (r2 : Int32) (d0 : UInt64) (d1 : UInt64) (d2 : UInt64) (s2 : Int32) (g0 : UInt64) (g1 : UInt64) (g2 : UInt64) (t0 : Int32) (t1 : Int32) (t2 : Int32) (vx : List Value) (h0 : Heap) (n0 : Nat) (Z0 : n0 ≤ h0.size) (hne : own_ne oo) (hn : own_nn n0 oo) (HS : own_St Z h0 oo kk (2 : Int32) (2 : Int32) [(.int c0), (.int c1), (.int c2)] [(.int (0 : Int32)), (.int (1 : Int32)), (.int r2)] [(.double d0), (.double d1), (.double d2)] [(.int (1 : Int32)), (.int (1 : Int32)), (.int s2)] [(.double g0), (.double g1), (.double g2)] [(.int t0), (.int t1), (.int t2)] vx) :
    MetFree l (⟨"com/example/physarum/physarum/Proposals", "arrange", "()V"⟩ : MethodName) (head1 (Jvm.Cond.code (⟨"com/example/physarum/physarum/Proposals", "arrange", "()V"⟩ : MethodName) prog_44_method_4_code 4 none :: ws) ({ frames := 1, cells := 0, slots := 0, locals := 40 } : Room)) (fun a U => a = #[(.ref (oo 0))] ∧ Z.Warmed39 U.vm ∧ U.heap = h0) (fun _ _ _ _ _ => True) (fun _ U o U' => ∃ v L, o = .returned v ∧ QArr2 Z oo kk c0 c1 c2 r2 d0 d1 d2 s2 g0 g1 g2 t0 t1 t2 vx h0 n0 v U'.heap L ∧ FrameEnd U o U' L ({ frames := 1, cells := 0, slots := 0, locals := 40 } : Room).cells ({ frames := 1, cells := 0, slots := 0, locals := 40 } : Room).slots) := by
  refine MetFree.of_bodySF (plainFor_of_name pn_6) hisR ?_
  intro p e s m args below meth c s₁ Bd hml0 hP hK
  obtain ⟨rfl, hZ, hh⟩ := hP
  have hx := Bd.exec
  have hby := Bd.bytes
  have hml : c.maxLocals = 4 := hml0
  have hown : s.vm.findClass "com/example/physarum/physarum/Proposals" = some m.cls := findClass_of_methodNamed Bd.named
  have hnm := (name_of_methodNamed Bd.named Bd.method).1
  have X0 : Stand p l e ({ frames := 1, cells := 0, slots := 0, locals := 40 } : Room) s m #[(.ref (oo 0))] below meth c s₁ [] 0 0 := Stand.of_body Bd
  have e0 : s₁.heap = h0 := by rw [← hh, Bd.state]; rfl
  have N0 := Fr.nil n0
  show EndsQ p.tables e below s (fun v h L => QArr2 Z oo kk c0 c1 c2 r2 d0 d1 d2 s2 g0 g1 g2 t0 t1 t2 vx h0 n0 v h L) ({ frames := 1, cells := 0, slots := 0, locals := 40 } : Room).cells ({ frames := 1, cells := 0, slots := 0, locals := 40 } : Room).slots _
  refine EndsQ.go (b := s₁.setTop (mkF m 0 #[.val (.ref (oo 0)), .unset, .unset, .unset] [])) (fun t k => castTop (ef_Arr2 m (oo 0)) k) ?_
  have HS0 := HS
  obtain ⟨SE, SF_candidates, SF_proposed, SF_confidences, SF_starts, SF_arranged, SF_taken, SF_indices, SF_cnt, SF_sz, SA_1, SA_2, SA_3, SA_4, SA_5, SA_6, SA_7⟩ := HS
  refine EndsQ.go (b := s₁.setTop (mkF m 1 #[.val (.ref (oo 0)), .unset, .unset, .unset] [(.ref (oo 0))])) (fun t k => ?_) ?_
  · show Steps p.tables e below (s₁.setTop (mkF m 0 #[.val (.ref (oo 0)), .unset, .unset, .unset] [])) _
    refine XS.aloadN X0.here hx rfl (hb hby d6_0) rfl rfl ?_
    exact k
  obtain ⟨T101, X101, e101, st101⟩ := getF X0 hx hZ hown (host := "") (Or.inl (hw _ (List.mem_of_getElem? (i := 19) rfl))) Via.refl e0 SF_arranged (g := (mkF m 1 #[.val (.ref (oo 0)), .unset, .unset, .unset] [(.ref (oo 0))])) rfl rfl (hb hby d6_1)
  refine EndsQ.go st101 ?_
  show EndsQ _ _ _ _ _ _ _ (T101.setTop (mkF m 4 #[.val (.ref (oo 0)), .unset, .unset, .unset] [(.ref (oo 5))]))
  obtain ⟨cl102, Ar102, -, S102, M102, -, -⟩ := id SA_5
  refine EndsQ.go (fun t k => X101.arraylength hx (by rw [e101]; exact Ar102.1) (State.isArrayOf_alike hZ.alike Ar102.2.1) (g := (mkF m 4 #[.val (.ref (oo 0)), .unset, .unset, .unset] [(.ref (oo 5))])) rfl rfl (hb hby d6_4) _ k) ?_
  rw [len_of S102 M102]
  show EndsQ _ _ _ _ _ _ _ (T101.setTop (mkF m 5 #[.val (.ref (oo 0)), .unset, .unset, .unset] [(.int (64 : Int32))]))
  refine EndsQ.go (b := T101.setTop (mkF m 6 #[.val (.ref (oo 0)), .unset, .unset, .unset] [(.ref (oo 0)), (.int (64 : Int32))])) (fun t k => ?_) ?_
  · show Steps p.tables e below (T101.setTop (mkF m 5 #[.val (.ref (oo 0)), .unset, .unset, .unset] [(.int (64 : Int32))])) _
    refine XS.aloadN X101.here hx rfl (hb hby d6_5) rfl rfl ?_
    exact k
  obtain ⟨T103, X103, e103, st103⟩ := getF X101 hx hZ hown (host := "") (Or.inl (hw _ (List.mem_of_getElem? (i := 35) rfl))) Via.refl e101 SF_sz (g := (mkF m 6 #[.val (.ref (oo 0)), .unset, .unset, .unset] [(.ref (oo 0)), (.int (64 : Int32))])) rfl rfl (hb hby d6_6)
  refine EndsQ.go st103 ?_
  show EndsQ _ _ _ _ _ _ _ (T103.setTop (mkF m 9 #[.val (.ref (oo 0)), .unset, .unset, .unset] [(.int (2 : Int32)), (.int (64 : Int32))]))
  refine EndsQ.go (b := T103.setTop (mkF m 29 #[.val (.ref (oo 0)), .val (.int (0 : Int32)), .val (.int (0 : Int32)), .unset] [(.ref (oo 0)), (.int (0 : Int32))])) (fun t k => ?_) ?_
  · show Steps p.tables e below (T103.setTop (mkF m 9 #[.val (.ref (oo 0)), .unset, .unset, .unset] [(.int (2 : Int32)), (.int (64 : Int32))])) _
    refine XS.icmpYes X103.here hx rfl (pc0 := 9) (pc' := 23) rfl (hb hby d6_9) rfl (flt (by decide)).2.1 (by decide) (by decide) ?_
    show Steps p.tables e below (T103.setTop (mkF m 23 #[.val (.ref (oo 0)), .unset, .unset, .unset] [])) _
    refine XS.iconst X103.here hx rfl (hb hby d6_23) ?_
    refine XS.istoreN X103.here hx rfl (hb hby d6_24) rfl (l' := #[.val (.ref (oo 0)), .val (.int (0 : Int32)), .unset, .unset]) rfl ?_
    show Steps p.tables e below (T103.setTop (mkF m 25 #[.val (.ref (oo 0)), .val (.int (0 : Int32)), .unset, .unset] [])) _
    refine XS.iconst X103.here hx rfl (hb hby d6_25) ?_
    refine XS.istoreN X103.here hx rfl (hb hby d6_26) rfl (l' := #[.val (.ref (oo 0)), .val (.int (0 : Int32)), .val (.int (0 : Int32)), .unset]) rfl ?_
    refine XS.iloadN X103.here hx rfl (hb hby d6_27) rfl ?_
    refine XS.aloadN X103.here hx rfl (hb hby d6_28) rfl rfl ?_
    show Steps p.tables e below (T103.setTop (mkF m 29 #[.val (.ref (oo 0)), .val (.int (0 : Int32)), .val (.int (0 : Int32)), .unset] [(.ref (oo 0)), (.int (0 : Int32))])) _
    exact k
  obtain ⟨T104, X104, e104, st104⟩ := getF X103 hx hZ hown (host := "") (Or.inl (hw _ (List.mem_of_getElem? (i := 37) rfl))) Via.refl e103 SF_cnt (g := (mkF m 29 #[.val (.ref (oo 0)), .val (.int (0 : Int32)), .val (.int (0 : Int32)), .unset] [(.ref (oo 0)), (.int (0 : Int32))])) rfl rfl (hb hby d6_29)
  refine EndsQ.go st104 ?_
  show EndsQ _ _ _ _ _ _ _ (T104.setTop (mkF m 32 #[.val (.ref (oo 0)), .val (.int (0 : Int32)), .val (.int (0 : Int32)), .unset] [(.int (2 : Int32)), (.int (0 : Int32))]))
  refine EndsQ.go (b := T104.setTop (mkF m 36 #[.val (.ref (oo 0)), .val (.int (0 : Int32)), .val (.int (0 : Int32)), .unset] [(.ref (oo 0))])) (fun t k => ?_) ?_
  · show Steps p.tables e below (T104.setTop (mkF m 32 #[.val (.ref (oo 0)), .val (.int (0 : Int32)), .val (.int (0 : Int32)), .unset] [(.int (2 : Int32)), (.int (0 : Int32))])) _
    refine XS.icmpNo X104.here hx rfl (hb hby d6_32) rfl (tlt (by decide)).2.1 ?_
    show Steps p.tables e below (T104.setTop (mkF m 35 #[.val (.ref (oo 0)), .val (.int (0 : Int32)), .val (.int (0 : Int32)), .unset] [])) _
    refine XS.aloadN X104.here hx rfl (hb hby d6_35) rfl rfl ?_
    exact k
  obtain ⟨T105, X105, e105, st105⟩ := getF X104 hx hZ hown (host := "") (Or.inl (hw _ (List.mem_of_getElem? (i := 17) rfl))) Via.refl e104 SF_starts (g := (mkF m 36 #[.val (.ref (oo 0)), .val (.int (0 : Int32)), .val (.int (0 : Int32)), .unset] [(.ref (oo 0))])) rfl rfl (hb hby d6_36)
  refine EndsQ.go st105 ?_
  show EndsQ _ _ _ _ _ _ _ (T105.setTop (mkF m 39 #[.val (.ref (oo 0)), .val (.int (0 : Int32)), .val (.int (0 : Int32)), .unset] [(.ref (oo 4))]))
  refine EndsQ.go (b := T105.setTop (mkF m 40 #[.val (.ref (oo 0)), .val (.int (0 : Int32)), .val (.int (0 : Int32)), .unset] [(.int (0 : Int32)), (.ref (oo 4))])) (fun t k => ?_) ?_
  · show Steps p.tables e below (T105.setTop (mkF m 39 #[.val (.ref (oo 0)), .val (.int (0 : Int32)), .val (.int (0 : Int32)), .unset] [(.ref (oo 4))])) _
    refine XS.iloadN X105.here hx rfl (hb hby d6_39) rfl ?_
    exact k
  obtain ⟨cl106, Ar106, q106, S106, M106, H106, G106⟩ := id SA_4
  have hin106 : ¬ ((0 : Int32) < 0 ∨ cl106.slots.size ≤ ((0 : Int32)).toNatClampNeg) := inb_of S106 ⟨by decide, by decide⟩
  have hat106 : cl106.slots[((0 : Int32)).toNatClampNeg]? = some (.int (1 : Int32)) := Has.at H106 hin106 rfl
  refine EndsQ.go (fun t k => X105.iaload hx (j := (0 : Int32)) (v := (.int (1 : Int32))) (by rw [e105]; exact Ar106.1) (State.isArrayOf_alike hZ.alike Ar106.2.1) Ar106.2.2 hin106 hat106 (g := (mkF m 40 #[.val (.ref (oo 0)), .val (.int (0 : Int32)), .val (.int (0 : Int32)), .unset] [(.int (0 : Int32)), (.ref (oo 4))])) rfl rfl (hb hby d6_40) _ k) ?_
  show EndsQ _ _ _ _ _ _ _ (T105.setTop (mkF m 41 #[.val (.ref (oo 0)), .val (.int (0 : Int32)), .val (.int (0 : Int32)), .unset] [(.int (1 : Int32))]))
  refine EndsQ.go (b := T105.setTop (mkF m 43 #[.val (.ref (oo 0)), .val (.int (0 : Int32)), .val (.int (0 : Int32)), .val (.int (1 : Int32))] [(.ref (oo 0))])) (fun t k => ?_) ?_
  · show Steps p.tables e below (T105.setTop (mkF m 41 #[.val (.ref (oo 0)), .val (.int (0 : Int32)), .val (.int (0 : Int32)), .unset] [(.int (1 : Int32))])) _
    refine XS.istoreN X105.here hx rfl (hb hby d6_41) rfl (l' := #[.val (.ref (oo 0)), .val (.int (0 : Int32)), .val (.int (0 : Int32)), .val (.int (1 : Int32))]) rfl ?_
    refine XS.aloadN X105.here hx rfl (hb hby d6_42) rfl rfl ?_
    show Steps p.tables e below (T105.setTop (mkF m 43 #[.val (.ref (oo 0)), .val (.int (0 : Int32)), .val (.int (0 : Int32)), .val (.int (1 : Int32))] [(.ref (oo 0))])) _
    exact k
  obtain ⟨T107, X107, e107, st107⟩ := getF X105 hx hZ hown (host := "") (Or.inl (hw _ (List.mem_of_getElem? (i := 17) rfl))) Via.refl e105 SF_starts (g := (mkF m 43 #[.val (.ref (oo 0)), .val (.int (0 : Int32)), .val (.int (0 : Int32)), .val (.int (1 : Int32))] [(.ref (oo 0))])) rfl rfl (hb hby d6_43)
  refine EndsQ.go st107 ?_
  show EndsQ _ _ _ _ _ _ _ (T107.setTop (mkF m 46 #[.val (.ref (oo 0)), .val (.int (0 : Int32)), .val (.int (0 : Int32)), .val (.int (1 : Int32))] [(.ref (oo 4))]))
  refine EndsQ.go (b := T107.setTop (mkF m 48 #[.val (.ref (oo 0)), .val (.int (0 : Int32)), .val (.int (0 : Int32)), .val (.int (1 : Int32))] [(.int (0 : Int32)), (.int (0 : Int32)), (.ref (oo 4))])) (fun t k => ?_) ?_
  · show Steps p.tables e below (T107.setTop (mkF m 46 #[.val (.ref (oo 0)), .val (.int (0 : Int32)), .val (.int (0 : Int32)), .val (.int (1 : Int32))] [(.ref (oo 4))])) _
    refine XS.iloadN X107.here hx rfl (hb hby d6_46) rfl ?_
    refine XS.iloadN X107.here hx rfl (hb hby d6_47) rfl ?_
    exact k
  obtain ⟨cl108, Ar108, q108, S108, M108, H108, G108⟩ := id SA_4
  have hin108 : ¬ ((0 : Int32) < 0 ∨ cl108.slots.size ≤ ((0 : Int32)).toNatClampNeg) := inb_of S108 ⟨by decide, by decide⟩
  obtain ⟨T108, h108, X108, e108, W108, st108⟩ := stI X107 hx hZ e107 Ar108 (j := (0 : Int32)) hin108 (g := (mkF m 48 #[.val (.ref (oo 0)), .val (.int (0 : Int32)), .val (.int (0 : Int32)), .val (.int (1 : Int32))] [(.int (0 : Int32)), (.int (0 : Int32)), (.ref (oo 4))])) rfl rfl (hb hby d6_48)
  have fa108 : Arv Z h108 (oo 4) (kk 4) .int (17 : Int32) [(.int (0 : Int32)), (.int (1 : Int32)), (.int s2)] (.int (0 : Int32)) := Arv.set Ar108 q108 S108 M108 H108 G108 rfl W108 0 rfl (Nat.le_of_ble_eq_true rfl)
  have f109 := SE.wr W108
  have f110 := SF_candidates.other W108 (Or.inl (hne 0 4 (by decide) (by decide) (by decide)))
  have f111 := SF_proposed.other W108 (Or.inl (hne 0 4 (by decide) (by decide) (by decide)))
  have f112 := SF_confidences.other W108 (Or.inl (hne 0 4 (by decide) (by decide) (by decide)))
  have f113 := SF_starts.other W108 (Or.inl (hne 0 4 (by decide) (by decide) (by decide)))
  have f114 := SF_arranged.other W108 (Or.inl (hne 0 4 (by decide) (by decide) (by decide)))
  have f115 := SF_taken.other W108 (Or.inl (hne 0 4 (by decide) (by decide) (by decide)))
  have f116 := SF_indices.other W108 (Or.inl (hne 0 4 (by decide) (by decide) (by decide)))
  have f117 := SF_cnt.other W108 (Or.inl (hne 0 4 (by decide) (by decide) (by decide)))
  have f118 := SF_sz.other W108 (Or.inl (hne 0 4 (by decide) (by decide) (by decide)))
  have f119 := SA_1.other W108 (hne 1 4 (by decide) (by decide) (by decide))
  have f120 := SA_2.other W108 (hne 2 4 (by decide) (by decide) (by decide))
  have f121 := SA_3.other W108 (hne 3 4 (by decide) (by decide) (by decide))
  have f122 := SA_5.other W108 (hne 5 4 (by decide) (by decide) (by decide))
  have f123 := SA_6.other W108 (hne 6 4 (by decide) (by decide) (by decide))
  have f124 := SA_7.other W108 (hne 7 4 (by decide) (by decide) (by decide))
  have f125 := Nat.le_trans Z0 (Keep.of_wr W108).1
  have N108 := Fr.snoc X108 N0 (hn 4 (by decide))
  refine EndsQ.go st108 ?_
  show EndsQ _ _ _ _ _ _ _ (T108.setTop (mkF m 49 #[.val (.ref (oo 0)), .val (.int (0 : Int32)), .val (.int (0 : Int32)), .val (.int (1 : Int32))] []))
  refine EndsQ.go (b := T108.setTop (mkF m 50 #[.val (.ref (oo 0)), .val (.int (0 : Int32)), .val (.int (0 : Int32)), .val (.int (1 : Int32))] [(.ref (oo 0))])) (fun t k => ?_) ?_
  · show Steps p.tables e below (T108.setTop (mkF m 49 #[.val (.ref (oo 0)), .val (.int (0 : Int32)), .val (.int (0 : Int32)), .val (.int (1 : Int32))] [])) _
    refine XS.aloadN X108.here hx rfl (hb hby d6_49) rfl rfl ?_
    exact k
  obtain ⟨T126, X126, e126, st126⟩ := getF X108 hx hZ hown (host := "") (Or.inl (hw _ (List.mem_of_getElem? (i := 21) rfl))) Via.refl e108 f115 (g := (mkF m 50 #[.val (.ref (oo 0)), .val (.int (0 : Int32)), .val (.int (0 : Int32)), .val (.int (1 : Int32))] [(.ref (oo 0))])) rfl rfl (hb hby d6_50)
  refine EndsQ.go st126 ?_
  show EndsQ _ _ _ _ _ _ _ (T126.setTop (mkF m 53 #[.val (.ref (oo 0)), .val (.int (0 : Int32)), .val (.int (0 : Int32)), .val (.int (1 : Int32))] [(.ref (oo 6))]))
  refine EndsQ.go (b := T126.setTop (mkF m 55 #[.val (.ref (oo 0)), .val (.int (0 : Int32)), .val (.int (0 : Int32)), .val (.int (1 : Int32))] [(.int (0 : Int32)), (.int (0 : Int32)), (.ref (oo 6))])) (fun t k => ?_) ?_
  · show Steps p.tables e below (T126.setTop (mkF m 53 #[.val (.ref (oo 0)), .val (.int (0 : Int32)), .val (.int (0 : Int32)), .val (.int (1 : Int32))] [(.ref (oo 6))])) _
    refine XS.iloadN X126.here hx rfl (hb hby d6_53) rfl ?_
    show Steps p.tables e below (T126.setTop (mkF m 54 #[.val (.ref (oo 0)), .val (.int (0 : Int32)), .val (.int (0 : Int32)), .val (.int (1 : Int32))] [(.int (0 : Int32)), (.ref (oo 6))])) _
    refine XS.iloadN X126.here hx rfl (hb hby d6_54) rfl ?_
    exact k
  obtain ⟨cl127, Ar127, q127, S127, M127, H127, G127⟩ := id f123
  have hin127 : ¬ ((0 : Int32) < 0 ∨ cl127.slots.size ≤ ((0 : Int32)).toNatClampNeg) := inb_of S127 ⟨by decide, by decide⟩
  obtain ⟨T127, h127, X127, e127, W127, st127⟩ := stI X126 hx hZ e126 Ar127 (j := (0 : Int32)) hin127 (g := (mkF m 55 #[.val (.ref (oo 0)), .val (.int (0 : Int32)), .val (.int (0 : Int32)), .val (.int (1 : Int32))] [(.int (0 : Int32)), (.int (0 : Int32)), (.ref (oo 6))])) rfl rfl (hb hby d6_55)
  have fa127 : Arv Z h127 (oo 6) (kk 6) .int (16 : Int32) [(.int (0 : Int32)), (.int t1), (.int t2)] (.int (0 : Int32)) := Arv.set Ar127 q127 S127 M127 H127 G127 rfl W127 0 rfl (Nat.le_of_ble_eq_true rfl)
  have f128 := f109.wr W127
  have f129 := f110.other W127 (Or.inl (hne 0 6 (by decide) (by decide) (by decide)))
  have f130 := f111.other W127 (Or.inl (hne 0 6 (by decide) (by decide) (by decide)))
  have f131 := f112.other W127 (Or.inl (hne 0 6 (by decide) (by decide) (by decide)))
  have f132 := f113.other W127 (Or.inl (hne 0 6 (by decide) (by decide) (by decide)))
  have f133 := f114.other W127 (Or.inl (hne 0 6 (by decide) (by decide) (by decide)))
  have f134 := f115.other W127 (Or.inl (hne 0 6 (by decide) (by decide) (by decide)))
  have f135 := f116.other W127 (Or.inl (hne 0 6 (by decide) (by decide) (by decide)))
  have f136 := f117.other W127 (Or.inl (hne 0 6 (by decide) (by decide) (by decide)))
  have f137 := f118.other W127 (Or.inl (hne 0 6 (by decide) (by decide) (by decide)))
  have f138 := f119.other W127 (hne 1 6 (by decide) (by decide) (by decide))
  have f139 := f120.other W127 (hne 2 6 (by decide) (by decide) (by decide))
  have f140 := f121.other W127 (hne 3 6 (by decide) (by decide) (by decide))
  have f141 := f122.other W127 (hne 5 6 (by decide) (by decide) (by decide))
  have f142 := f124.other W127 (hne 7 6 (by decide) (by decide) (by decide))
  have f143 := Nat.le_trans f125 (Keep.of_wr W127).1
  have f144 := fa108.other W127 (hne 4 6 (by decide) (by decide) (by decide))
  have N127 := Fr.snoc X127 N108 (hn 6 (by decide))
  refine EndsQ.go st127 ?_
  show EndsQ _ _ _ _ _ _ _ (T127.setTop (mkF m 56 #[.val (.ref (oo 0)), .val (.int (0 : Int32)), .val (.int (0 : Int32)), .val (.int (1 : Int32))] []))
  refine EndsQ.go (b := T127.setTop (mkF m 29 #[.val (.ref (oo 0)), .val (.int (1 : Int32)), .val (.int (1 : Int32)), .val (.int (1 : Int32))] [(.ref (oo 0)), (.int (1 : Int32))])) (fun t k => ?_) ?_
  · show Steps p.tables e below (T127.setTop (mkF m 56 #[.val (.ref (oo 0)), .val (.int (0 : Int32)), .val (.int (0 : Int32)), .val (.int (1 : Int32))] [])) _
    refine XS.iloadN X127.here hx rfl (hb hby d6_56) rfl ?_
    refine XS.iloadN X127.here hx rfl (hb hby d6_57) rfl ?_
    refine XS.iadd X127.here hx rfl (hb hby d6_58) rfl ?_
    show Steps p.tables e below (T127.setTop (mkF m 59 #[.val (.ref (oo 0)), .val (.int (0 : Int32)), .val (.int (0 : Int32)), .val (.int (1 : Int32))] [(.int ((0 : Int32) + (1 : Int32)))])) _
    rw [(by decide : ((0 : Int32) + (1 : Int32)) = (1 : Int32))]
    show Steps p.tables e below (T127.setTop (mkF m 59 #[.val (.ref (oo 0)), .val (.int (0 : Int32)), .val (.int (0 : Int32)), .val (.int (1 : Int32))] [(.int (1 : Int32))])) _
    refine XS.istoreN X127.here hx rfl (hb hby d6_59) rfl (l' := #[.val (.ref (oo 0)), .val (.int (1 : Int32)), .val (.int (0 : Int32)), .val (.int (1 : Int32))]) rfl ?_
    refine XS.iinc X127.here hx rfl (hb hby d6_60) rfl (l' := #[.val (.ref (oo 0)), .val (.int (1 : Int32)), .val (.int ((0 : Int32) + Int32.ofInt 1)), .val (.int (1 : Int32))]) rfl ?_
    show Steps p.tables e below (T127.setTop (mkF m 63 #[.val (.ref (oo 0)), .val (.int (1 : Int32)), .val (.int ((0 : Int32) + Int32.ofInt 1)), .val (.int (1 : Int32))] [])) _
    rw [(by decide : ((0 : Int32) + Int32.ofInt 1) = (1 : Int32))]
    show Steps p.tables e below (T127.setTop (mkF m 63 #[.val (.ref (oo 0)), .val (.int (1 : Int32)), .val (.int (1 : Int32)), .val (.int (1 : Int32))] [])) _
    refine XS.goto X127.here hx rfl (pc0 := 63) (pc' := 27) rfl (hb hby d6_63) (by decide) (by decide) ?_
    refine XS.iloadN X127.here hx rfl (hb hby d6_27) rfl ?_
    show Steps p.tables e below (T127.setTop (mkF m 28 #[.val (.ref (oo 0)), .val (.int (1 : Int32)), .val (.int (1 : Int32)), .val (.int (1 : Int32))] [(.int (1 : Int32))])) _
    refine XS.aloadN X127.here hx rfl (hb hby d6_28) rfl rfl ?_
    exact k
  obtain ⟨T145, X145, e145, st145⟩ := getF X127 hx hZ hown (host := "") (Or.inl (hw _ (List.mem_of_getElem? (i := 37) rfl))) Via.refl e127 f136 (g := (mkF m 29 #[.val (.ref (oo 0)), .val (.int (1 : Int32)), .val (.int (1 : Int32)), .val (.int (1 : Int32))] [(.ref (oo 0)), (.int (1 : Int32))])) rfl rfl (hb hby d6_29)
  refine EndsQ.go st145 ?_
  show EndsQ _ _ _ _ _ _ _ (T145.setTop (mkF m 32 #[.val (.ref (oo 0)), .val (.int (1 : Int32)), .val (.int (1 : Int32)), .val (.int (1 : Int32))] [(.int (2 : Int32)), (.int (1 : Int32))]))
  refine EndsQ.go (b := T145.setTop (mkF m 36 #[.val (.ref (oo 0)), .val (.int (1 : Int32)), .val (.int (1 : Int32)), .val (.int (1 : Int32))] [(.ref (oo 0))])) (fun t k => ?_) ?_
  · show Steps p.tables e below (T145.setTop (mkF m 32 #[.val (.ref (oo 0)), .val (.int (1 : Int32)), .val (.int (1 : Int32)), .val (.int (1 : Int32))] [(.int (2 : Int32)), (.int (1 : Int32))])) _
    refine XS.icmpNo X145.here hx rfl (hb hby d6_32) rfl (tlt (by decide)).2.1 ?_
    show Steps p.tables e below (T145.setTop (mkF m 35 #[.val (.ref (oo 0)), .val (.int (1 : Int32)), .val (.int (1 : Int32)), .val (.int (1 : Int32))] [])) _
    refine XS.aloadN X145.here hx rfl (hb hby d6_35) rfl rfl ?_
    exact k
  obtain ⟨T146, X146, e146, st146⟩ := getF X145 hx hZ hown (host := "") (Or.inl (hw _ (List.mem_of_getElem? (i := 17) rfl))) Via.refl e145 f132 (g := (mkF m 36 #[.val (.ref (oo 0)), .val (.int (1 : Int32)), .val (.int (1 : Int32)), .val (.int (1 : Int32))] [(.ref (oo 0))])) rfl rfl (hb hby d6_36)
  refine EndsQ.go st146 ?_
  show EndsQ _ _ _ _ _ _ _ (T146.setTop (mkF m 39 #[.val (.ref (oo 0)), .val (.int (1 : Int32)), .val (.int (1 : Int32)), .val (.int (1 : Int32))] [(.ref (oo 4))]))
  refine EndsQ.go (b := T146.setTop (mkF m 40 #[.val (.ref (oo 0)), .val (.int (1 : Int32)), .val (.int (1 : Int32)), .val (.int (1 : Int32))] [(.int (1 : Int32)), (.ref (oo 4))])) (fun t k => ?_) ?_
  · show Steps p.tables e below (T146.setTop (mkF m 39 #[.val (.ref (oo 0)), .val (.int (1 : Int32)), .val (.int (1 : Int32)), .val (.int (1 : Int32))] [(.ref (oo 4))])) _
    refine XS.iloadN X146.here hx rfl (hb hby d6_39) rfl ?_
    exact k
  obtain ⟨cl147, Ar147, q147, S147, M147, H147, G147⟩ := id f144
  have hin147 : ¬ ((1 : Int32) < 0 ∨ cl147.slots.size ≤ ((1 : Int32)).toNatClampNeg) := inb_of S147 ⟨by decide, by decide⟩
  have hat147 : cl147.slots[((1 : Int32)).toNatClampNeg]? = some (.int (1 : Int32)) := Has.at H147 hin147 rfl
  refine EndsQ.go (fun t k => X146.iaload hx (j := (1 : Int32)) (v := (.int (1 : Int32))) (by rw [e146]; exact Ar147.1) (State.isArrayOf_alike hZ.alike Ar147.2.1) Ar147.2.2 hin147 hat147 (g := (mkF m 40 #[.val (.ref (oo 0)), .val (.int (1 : Int32)), .val (.int (1 : Int32)), .val (.int (1 : Int32))] [(.int (1 : Int32)), (.ref (oo 4))])) rfl rfl (hb hby d6_40) _ k) ?_
  show EndsQ _ _ _ _ _ _ _ (T146.setTop (mkF m 41 #[.val (.ref (oo 0)), .val (.int (1 : Int32)), .val (.int (1 : Int32)), .val (.int (1 : Int32))] [(.int (1 : Int32))]))
  refine EndsQ.go (b := T146.setTop (mkF m 43 #[.val (.ref (oo 0)), .val (.int (1 : Int32)), .val (.int (1 : Int32)), .val (.int (1 : Int32))] [(.ref (oo 0))])) (fun t k => ?_) ?_
  · show Steps p.tables e below (T146.setTop (mkF m 41 #[.val (.ref (oo 0)), .val (.int (1 : Int32)), .val (.int (1 : Int32)), .val (.int (1 : Int32))] [(.int (1 : Int32))])) _
    refine XS.istoreN X146.here hx rfl (hb hby d6_41) rfl (l' := #[.val (.ref (oo 0)), .val (.int (1 : Int32)), .val (.int (1 : Int32)), .val (.int (1 : Int32))]) rfl ?_
    show Steps p.tables e below (T146.setTop (mkF m 42 #[.val (.ref (oo 0)), .val (.int (1 : Int32)), .val (.int (1 : Int32)), .val (.int (1 : Int32))] [])) _
    refine XS.aloadN X146.here hx rfl (hb hby d6_42) rfl rfl ?_
    exact k
  obtain ⟨T148, X148, e148, st148⟩ := getF X146 hx hZ hown (host := "") (Or.inl (hw _ (List.mem_of_getElem? (i := 17) rfl))) Via.refl e146 f132 (g := (mkF m 43 #[.val (.ref (oo 0)), .val (.int (1 : Int32)), .val (.int (1 : Int32)), .val (.int (1 : Int32))] [(.ref (oo 0))])) rfl rfl (hb hby d6_43)
  refine EndsQ.go st148 ?_
  show EndsQ _ _ _ _ _ _ _ (T148.setTop (mkF m 46 #[.val (.ref (oo 0)), .val (.int (1 : Int32)), .val (.int (1 : Int32)), .val (.int (1 : Int32))] [(.ref (oo 4))]))
  refine EndsQ.go (b := T148.setTop (mkF m 48 #[.val (.ref (oo 0)), .val (.int (1 : Int32)), .val (.int (1 : Int32)), .val (.int (1 : Int32))] [(.int (1 : Int32)), (.int (1 : Int32)), (.ref (oo 4))])) (fun t k => ?_) ?_
  · show Steps p.tables e below (T148.setTop (mkF m 46 #[.val (.ref (oo 0)), .val (.int (1 : Int32)), .val (.int (1 : Int32)), .val (.int (1 : Int32))] [(.ref (oo 4))])) _
    refine XS.iloadN X148.here hx rfl (hb hby d6_46) rfl ?_
    refine XS.iloadN X148.here hx rfl (hb hby d6_47) rfl ?_
    exact k
  obtain ⟨cl149, Ar149, q149, S149, M149, H149, G149⟩ := id f144
  have hin149 : ¬ ((1 : Int32) < 0 ∨ cl149.slots.size ≤ ((1 : Int32)).toNatClampNeg) := inb_of S149 ⟨by decide, by decide⟩
  obtain ⟨T149, h149, X149, e149, W149, st149⟩ := stI X148 hx hZ e148 Ar149 (j := (1 : Int32)) hin149 (g := (mkF m 48 #[.val (.ref (oo 0)), .val (.int (1 : Int32)), .val (.int (1 : Int32)), .val (.int (1 : Int32))] [(.int (1 : Int32)), (.int (1 : Int32)), (.ref (oo 4))])) rfl rfl (hb hby d6_48)
  have fa149 : Arv Z h149 (oo 4) (kk 4) .int (17 : Int32) [(.int (0 : Int32)), (.int (1 : Int32)), (.int s2)] (.int (0 : Int32)) := Arv.set Ar149 q149 S149 M149 H149 G149 rfl W149 1 rfl (Nat.le_of_ble_eq_true rfl)
  have f150 := f128.wr W149
  have f151 := f129.other W149 (Or.inl (hne 0 4 (by decide) (by decide) (by decide)))
  have f152 := f130.other W149 (Or.inl (hne 0 4 (by decide) (by decide) (by decide)))
  have f153 := f131.other W149 (Or.inl (hne 0 4 (by decide) (by decide) (by decide)))
  have f154 := f132.other W149 (Or.inl (hne 0 4 (by decide) (by decide) (by decide)))
  have f155 := f133.other W149 (Or.inl (hne 0 4 (by decide) (by decide) (by decide)))
  have f156 := f134.other W149 (Or.inl (hne 0 4 (by decide) (by decide) (by decide)))
  have f157 := f135.other W149 (Or.inl (hne 0 4 (by decide) (by decide) (by decide)))
  have f158 := f136.other W149 (Or.inl (hne 0 4 (by decide) (by decide) (by decide)))
  have f159 := f137.other W149 (Or.inl (hne 0 4 (by decide) (by decide) (by decide)))
  have f160 := f138.other W149 (hne 1 4 (by decide) (by decide) (by decide))
  have f161 := f139.other W149 (hne 2 4 (by decide) (by decide) (by decide))
  have f162 := f140.other W149 (hne 3 4 (by decide) (by decide) (by decide))
  have f163 := f141.other W149 (hne 5 4 (by decide) (by decide) (by decide))
  have f164 := f142.other W149 (hne 7 4 (by decide) (by decide) (by decide))
  have f165 := Nat.le_trans f143 (Keep.of_wr W149).1
  have f166 := fa127.other W149 (hne 6 4 (by decide) (by decide) (by decide))
  have N149 := Fr.snoc X149 N127 (hn 4 (by decide))
  refine EndsQ.go st149 ?_
  show EndsQ _ _ _ _ _ _ _ (T149.setTop (mkF m 49 #[.val (.ref (oo 0)), .val (.int (1 : Int32)), .val (.int (1 : Int32)), .val (.int (1 : Int32))] []))
  refine EndsQ.go (b := T149.setTop (mkF m 50 #[.val (.ref (oo 0)), .val (.int (1 : Int32)), .val (.int (1 : Int32)), .val (.int (1 : Int32))] [(.ref (oo 0))])) (fun t k => ?_) ?_
  · show Steps p.tables e below (T149.setTop (mkF m 49 #[.val (.ref (oo 0)), .val (.int (1 : Int32)), .val (.int (1 : Int32)), .val (.int (1 : Int32))] [])) _
    refine XS.aloadN X149.here hx rfl (hb hby d6_49) rfl rfl ?_
    show Steps p.tables e below (T149.setTop (mkF m 50 #[.val (.ref (oo 0)), .val (.int (1 : Int32)), .val (.int (1 : Int32)), .val (.int (1 : Int32))] [(.ref (oo 0))])) _
    exact k
  obtain ⟨T167, X167, e167, st167⟩ := getF X149 hx hZ hown (host := "") (Or.inl (hw _ (List.mem_of_getElem? (i := 21) rfl))) Via.refl e149 f156 (g := (mkF m 50 #[.val (.ref (oo 0)), .val (.int (1 : Int32)), .val (.int (1 : Int32)), .val (.int (1 : Int32))] [(.ref (oo 0))])) rfl rfl (hb hby d6_50)
  refine EndsQ.go st167 ?_
  show EndsQ _ _ _ _ _ _ _ (T167.setTop (mkF m 53 #[.val (.ref (oo 0)), .val (.int (1 : Int32)), .val (.int (1 : Int32)), .val (.int (1 : Int32))] [(.ref (oo 6))]))
  refine EndsQ.go (b := T167.setTop (mkF m 55 #[.val (.ref (oo 0)), .val (.int (1 : Int32)), .val (.int (1 : Int32)), .val (.int (1 : Int32))] [(.int (1 : Int32)), (.int (1 : Int32)), (.ref (oo 6))])) (fun t k => ?_) ?_
  · show Steps p.tables e below (T167.setTop (mkF m 53 #[.val (.ref (oo 0)), .val (.int (1 : Int32)), .val (.int (1 : Int32)), .val (.int (1 : Int32))] [(.ref (oo 6))])) _
    refine XS.iloadN X167.here hx rfl (hb hby d6_53) rfl ?_
    refine XS.iloadN X167.here hx rfl (hb hby d6_54) rfl ?_
    exact k
  obtain ⟨cl168, Ar168, q168, S168, M168, H168, G168⟩ := id f166
  have hin168 : ¬ ((1 : Int32) < 0 ∨ cl168.slots.size ≤ ((1 : Int32)).toNatClampNeg) := inb_of S168 ⟨by decide, by decide⟩
  obtain ⟨T168, h168, X168, e168, W168, st168⟩ := stI X167 hx hZ e167 Ar168 (j := (1 : Int32)) hin168 (g := (mkF m 55 #[.val (.ref (oo 0)), .val (.int (1 : Int32)), .val (.int (1 : Int32)), .val (.int (1 : Int32))] [(.int (1 : Int32)), (.int (1 : Int32)), (.ref (oo 6))])) rfl rfl (hb hby d6_55)
  have fa168 : Arv Z h168 (oo 6) (kk 6) .int (16 : Int32) [(.int (0 : Int32)), (.int (1 : Int32)), (.int t2)] (.int (0 : Int32)) := Arv.set Ar168 q168 S168 M168 H168 G168 rfl W168 1 rfl (Nat.le_of_ble_eq_true rfl)
  have f169 := f150.wr W168
  have f170 := f151.other W168 (Or.inl (hne 0 6 (by decide) (by decide) (by decide)))
  have f171 := f152.other W168 (Or.inl (hne 0 6 (by decide) (by decide) (by decide)))
  have f172 := f153.other W168 (Or.inl (hne 0 6 (by decide) (by decide) (by decide)))
  have f173 := f154.other W168 (Or.inl (hne 0 6 (by decide) (by decide) (by decide)))
  have f174 := f155.other W168 (Or.inl (hne 0 6 (by decide) (by decide) (by decide)))
  have f175 := f156.other W168 (Or.inl (hne 0 6 (by decide) (by decide) (by decide)))
  have f176 := f157.other W168 (Or.inl (hne 0 6 (by decide) (by decide) (by decide)))
  have f177 := f158.other W168 (Or.inl (hne 0 6 (by decide) (by decide) (by decide)))
  have f178 := f159.other W168 (Or.inl (hne 0 6 (by decide) (by decide) (by decide)))
  have f179 := f160.other W168 (hne 1 6 (by decide) (by decide) (by decide))
  have f180 := f161.other W168 (hne 2 6 (by decide) (by decide) (by decide))
  have f181 := f162.other W168 (hne 3 6 (by decide) (by decide) (by decide))
  have f182 := f163.other W168 (hne 5 6 (by decide) (by decide) (by decide))
  have f183 := f164.other W168 (hne 7 6 (by decide) (by decide) (by decide))
  have f184 := Nat.le_trans f165 (Keep.of_wr W168).1
  have f185 := fa149.other W168 (hne 4 6 (by decide) (by decide) (by decide))
  have N168 := Fr.snoc X168 N149 (hn 6 (by decide))
  refine EndsQ.go st168 ?_
  show EndsQ _ _ _ _ _ _ _ (T168.setTop (mkF m 56 #[.val (.ref (oo 0)), .val (.int (1 : Int32)), .val (.int (1 : Int32)), .val (.int (1 : Int32))] []))
  refine EndsQ.go (b := T168.setTop (mkF m 29 #[.val (.ref (oo 0)), .val (.int (2 : Int32)), .val (.int (2 : Int32)), .val (.int (1 : Int32))] [(.ref (oo 0)), (.int (2 : Int32))])) (fun t k => ?_) ?_
  · show Steps p.tables e below (T168.setTop (mkF m 56 #[.val (.ref (oo 0)), .val (.int (1 : Int32)), .val (.int (1 : Int32)), .val (.int (1 : Int32))] [])) _
    refine XS.iloadN X168.here hx rfl (hb hby d6_56) rfl ?_
    refine XS.iloadN X168.here hx rfl (hb hby d6_57) rfl ?_
    show Steps p.tables e below (T168.setTop (mkF m 58 #[.val (.ref (oo 0)), .val (.int (1 : Int32)), .val (.int (1 : Int32)), .val (.int (1 : Int32))] [(.int (1 : Int32)), (.int (1 : Int32))])) _
    refine XS.iadd X168.here hx rfl (hb hby d6_58) rfl ?_
    show Steps p.tables e below (T168.setTop (mkF m 59 #[.val (.ref (oo 0)), .val (.int (1 : Int32)), .val (.int (1 : Int32)), .val (.int (1 : Int32))] [(.int ((1 : Int32) + (1 : Int32)))])) _
    rw [(by decide : ((1 : Int32) + (1 : Int32)) = (2 : Int32))]
    show Steps p.tables e below (T168.setTop (mkF m 59 #[.val (.ref (oo 0)), .val (.int (1 : Int32)), .val (.int (1 : Int32)), .val (.int (1 : Int32))] [(.int (2 : Int32))])) _
    refine XS.istoreN X168.here hx rfl (hb hby d6_59) rfl (l' := #[.val (.ref (oo 0)), .val (.int (2 : Int32)), .val (.int (1 : Int32)), .val (.int (1 : Int32))]) rfl ?_
    refine XS.iinc X168.here hx rfl (hb hby d6_60) rfl (l' := #[.val (.ref (oo 0)), .val (.int (2 : Int32)), .val (.int ((1 : Int32) + Int32.ofInt 1)), .val (.int (1 : Int32))]) rfl ?_
    show Steps p.tables e below (T168.setTop (mkF m 63 #[.val (.ref (oo 0)), .val (.int (2 : Int32)), .val (.int ((1 : Int32) + Int32.ofInt 1)), .val (.int (1 : Int32))] [])) _
    rw [(by decide : ((1 : Int32) + Int32.ofInt 1) = (2 : Int32))]
    show Steps p.tables e below (T168.setTop (mkF m 63 #[.val (.ref (oo 0)), .val (.int (2 : Int32)), .val (.int (2 : Int32)), .val (.int (1 : Int32))] [])) _
    refine XS.goto X168.here hx rfl (pc0 := 63) (pc' := 27) rfl (hb hby d6_63) (by decide) (by decide) ?_
    show Steps p.tables e below (T168.setTop (mkF m 27 #[.val (.ref (oo 0)), .val (.int (2 : Int32)), .val (.int (2 : Int32)), .val (.int (1 : Int32))] [])) _
    refine XS.iloadN X168.here hx rfl (hb hby d6_27) rfl ?_
    refine XS.aloadN X168.here hx rfl (hb hby d6_28) rfl rfl ?_
    exact k
  obtain ⟨T186, X186, e186, st186⟩ := getF X168 hx hZ hown (host := "") (Or.inl (hw _ (List.mem_of_getElem? (i := 37) rfl))) Via.refl e168 f177 (g := (mkF m 29 #[.val (.ref (oo 0)), .val (.int (2 : Int32)), .val (.int (2 : Int32)), .val (.int (1 : Int32))] [(.ref (oo 0)), (.int (2 : Int32))])) rfl rfl (hb hby d6_29)
  refine EndsQ.go st186 ?_
  show EndsQ _ _ _ _ _ _ _ (T186.setTop (mkF m 32 #[.val (.ref (oo 0)), .val (.int (2 : Int32)), .val (.int (2 : Int32)), .val (.int (1 : Int32))] [(.int (2 : Int32)), (.int (2 : Int32))]))
  refine EndsQ.go (b := T186.setTop (mkF m 67 #[.val (.ref (oo 0)), .val (.int (2 : Int32)), .val (.int (2 : Int32)), .val (.int (1 : Int32))] [(.ref (oo 0))])) (fun t k => ?_) ?_
  · show Steps p.tables e below (T186.setTop (mkF m 32 #[.val (.ref (oo 0)), .val (.int (2 : Int32)), .val (.int (2 : Int32)), .val (.int (1 : Int32))] [(.int (2 : Int32)), (.int (2 : Int32))])) _
    refine XS.icmpYes X186.here hx rfl (pc0 := 32) (pc' := 66) rfl (hb hby d6_32) rfl (flt (by decide)).2.1 (by decide) (by decide) ?_
    show Steps p.tables e below (T186.setTop (mkF m 66 #[.val (.ref (oo 0)), .val (.int (2 : Int32)), .val (.int (2 : Int32)), .val (.int (1 : Int32))] [])) _
    refine XS.aloadN X186.here hx rfl (hb hby d6_66) rfl rfl ?_
    exact k
  obtain ⟨T187, X187, e187, st187⟩ := getF X186 hx hZ hown (host := "") (Or.inl (hw _ (List.mem_of_getElem? (i := 17) rfl))) Via.refl e186 f173 (g := (mkF m 67 #[.val (.ref (oo 0)), .val (.int (2 : Int32)), .val (.int (2 : Int32)), .val (.int (1 : Int32))] [(.ref (oo 0))])) rfl rfl (hb hby d6_67)
  refine EndsQ.go st187 ?_
  show EndsQ _ _ _ _ _ _ _ (T187.setTop (mkF m 70 #[.val (.ref (oo 0)), .val (.int (2 : Int32)), .val (.int (2 : Int32)), .val (.int (1 : Int32))] [(.ref (oo 4))]))
  refine EndsQ.go (b := T187.setTop (mkF m 71 #[.val (.ref (oo 0)), .val (.int (2 : Int32)), .val (.int (2 : Int32)), .val (.int (1 : Int32))] [(.ref (oo 0)), (.ref (oo 4))])) (fun t k => ?_) ?_
  · show Steps p.tables e below (T187.setTop (mkF m 70 #[.val (.ref (oo 0)), .val (.int (2 : Int32)), .val (.int (2 : Int32)), .val (.int (1 : Int32))] [(.ref (oo 4))])) _
    refine XS.aloadN X187.here hx rfl (hb hby d6_70) rfl rfl ?_
    show Steps p.tables e below (T187.setTop (mkF m 71 #[.val (.ref (oo 0)), .val (.int (2 : Int32)), .val (.int (2 : Int32)), .val (.int (1 : Int32))] [(.ref (oo 0)), (.ref (oo 4))])) _
    exact k
  obtain ⟨T188, X188, e188, st188⟩ := getF X187 hx hZ hown (host := "") (Or.inl (hw _ (List.mem_of_getElem? (i := 37) rfl))) Via.refl e187 f177 (g := (mkF m 71 #[.val (.ref (oo 0)), .val (.int (2 : Int32)), .val (.int (2 : Int32)), .val (.int (1 : Int32))] [(.ref (oo 0)), (.ref (oo 4))])) rfl rfl (hb hby d6_71)
  refine EndsQ.go st188 ?_
  show EndsQ _ _ _ _ _ _ _ (T188.setTop (mkF m 74 #[.val (.ref (oo 0)), .val (.int (2 : Int32)), .val (.int (2 : Int32)), .val (.int (1 : Int32))] [(.int (2 : Int32)), (.ref (oo 4))]))
  refine EndsQ.go (b := T188.setTop (mkF m 75 #[.val (.ref (oo 0)), .val (.int (2 : Int32)), .val (.int (2 : Int32)), .val (.int (1 : Int32))] [(.int (2 : Int32)), (.int (2 : Int32)), (.ref (oo 4))])) (fun t k => ?_) ?_
  · show Steps p.tables e below (T188.setTop (mkF m 74 #[.val (.ref (oo 0)), .val (.int (2 : Int32)), .val (.int (2 : Int32)), .val (.int (1 : Int32))] [(.int (2 : Int32)), (.ref (oo 4))])) _
    refine XS.iloadN X188.here hx rfl (hb hby d6_74) rfl ?_
    exact k
  obtain ⟨cl189, Ar189, q189, S189, M189, H189, G189⟩ := id f185
  have hin189 : ¬ ((2 : Int32) < 0 ∨ cl189.slots.size ≤ ((2 : Int32)).toNatClampNeg) := inb_of S189 ⟨by decide, by decide⟩
  obtain ⟨T189, h189, X189, e189, W189, st189⟩ := stI X188 hx hZ e188 Ar189 (j := (2 : Int32)) hin189 (g := (mkF m 75 #[.val (.ref (oo 0)), .val (.int (2 : Int32)), .val (.int (2 : Int32)), .val (.int (1 : Int32))] [(.int (2 : Int32)), (.int (2 : Int32)), (.ref (oo 4))])) rfl rfl (hb hby d6_75)
  have fa189 : Arv Z h189 (oo 4) (kk 4) .int (17 : Int32) [(.int (0 : Int32)), (.int (1 : Int32)), (.int (2 : Int32))] (.int (0 : Int32)) := Arv.set Ar189 q189 S189 M189 H189 G189 rfl W189 2 rfl (Nat.le_of_ble_eq_true rfl)
  have f190 := f169.wr W189
  have f191 := f170.other W189 (Or.inl (hne 0 4 (by decide) (by decide) (by decide)))
  have f192 := f171.other W189 (Or.inl (hne 0 4 (by decide) (by decide) (by decide)))
  have f193 := f172.other W189 (Or.inl (hne 0 4 (by decide) (by decide) (by decide)))
  have f194 := f173.other W189 (Or.inl (hne 0 4 (by decide) (by decide) (by decide)))
  have f195 := f174.other W189 (Or.inl (hne 0 4 (by decide) (by decide) (by decide)))
  have f196 := f175.other W189 (Or.inl (hne 0 4 (by decide) (by decide) (by decide)))
  have f197 := f176.other W189 (Or.inl (hne 0 4 (by decide) (by decide) (by decide)))
  have f198 := f177.other W189 (Or.inl (hne 0 4 (by decide) (by decide) (by decide)))
  have f199 := f178.other W189 (Or.inl (hne 0 4 (by decide) (by decide) (by decide)))
  have f200 := f179.other W189 (hne 1 4 (by decide) (by decide) (by decide))
  have f201 := f180.other W189 (hne 2 4 (by decide) (by decide) (by decide))
  have f202 := f181.other W189 (hne 3 4 (by decide) (by decide) (by decide))
  have f203 := f182.other W189 (hne 5 4 (by decide) (by decide) (by decide))
  have f204 := f183.other W189 (hne 7 4 (by decide) (by decide) (by decide))
  have f205 := Nat.le_trans f184 (Keep.of_wr W189).1
  have f206 := fa168.other W189 (hne 6 4 (by decide) (by decide) (by decide))
  have N189 := Fr.snoc X189 N168 (hn 4 (by decide))
  refine EndsQ.go st189 ?_
  show EndsQ _ _ _ _ _ _ _ (T189.setTop (mkF m 76 #[.val (.ref (oo 0)), .val (.int (2 : Int32)), .val (.int (2 : Int32)), .val (.int (1 : Int32))] []))
  refine EndsQ.go (b := T189.setTop (mkF m 80 #[.val (.ref (oo 0)), .val (.int (2 : Int32)), .val (.int (0 : Int32)), .val (.int (1 : Int32))] [(.ref (oo 0)), (.int (0 : Int32))])) (fun t k => ?_) ?_
  · show Steps p.tables e below (T189.setTop (mkF m 76 #[.val (.ref (oo 0)), .val (.int (2 : Int32)), .val (.int (2 : Int32)), .val (.int (1 : Int32))] [])) _
    refine XS.iconst X189.here hx rfl (hb hby d6_76) ?_
    refine XS.istoreN X189.here hx rfl (hb hby d6_77) rfl (l' := #[.val (.ref (oo 0)), .val (.int (2 : Int32)), .val (.int (0 : Int32)), .val (.int (1 : Int32))]) rfl ?_
    refine XS.iloadN X189.here hx rfl (hb hby d6_78) rfl ?_
    show Steps p.tables e below (T189.setTop (mkF m 79 #[.val (.ref (oo 0)), .val (.int (2 : Int32)), .val (.int (0 : Int32)), .val (.int (1 : Int32))] [(.int (0 : Int32))])) _
    refine XS.aloadN X189.here hx rfl (hb hby d6_79) rfl rfl ?_
    exact k
  obtain ⟨T207, X207, e207, st207⟩ := getF X189 hx hZ hown (host := "") (Or.inl (hw _ (List.mem_of_getElem? (i := 35) rfl))) Via.refl e189 f199 (g := (mkF m 80 #[.val (.ref (oo 0)), .val (.int (2 : Int32)), .val (.int (0 : Int32)), .val (.int (1 : Int32))] [(.ref (oo 0)), (.int (0 : Int32))])) rfl rfl (hb hby d6_80)
  refine EndsQ.go st207 ?_
  show EndsQ _ _ _ _ _ _ _ (T207.setTop (mkF m 83 #[.val (.ref (oo 0)), .val (.int (2 : Int32)), .val (.int (0 : Int32)), .val (.int (1 : Int32))] [(.int (2 : Int32)), (.int (0 : Int32))]))
  refine EndsQ.go (b := T207.setTop (mkF m 87 #[.val (.ref (oo 0)), .val (.int (2 : Int32)), .val (.int (0 : Int32)), .val (.int (1 : Int32))] [(.ref (oo 0))])) (fun t k => ?_) ?_
  · show Steps p.tables e below (T207.setTop (mkF m 83 #[.val (.ref (oo 0)), .val (.int (2 : Int32)), .val (.int (0 : Int32)), .val (.int (1 : Int32))] [(.int (2 : Int32)), (.int (0 : Int32))])) _
    refine XS.icmpNo X207.here hx rfl (hb hby d6_83) rfl (tlt (by decide)).2.1 ?_
    show Steps p.tables e below (T207.setTop (mkF m 86 #[.val (.ref (oo 0)), .val (.int (2 : Int32)), .val (.int (0 : Int32)), .val (.int (1 : Int32))] [])) _
    refine XS.aloadN X207.here hx rfl (hb hby d6_86) rfl rfl ?_
    exact k
  obtain ⟨T208, X208, e208, st208⟩ := getF X207 hx hZ hown (host := "") (Or.inl (hw _ (List.mem_of_getElem? (i := 19) rfl))) Via.refl e207 f195 (g := (mkF m 87 #[.val (.ref (oo 0)), .val (.int (2 : Int32)), .val (.int (0 : Int32)), .val (.int (1 : Int32))] [(.ref (oo 0))])) rfl rfl (hb hby d6_87)
  refine EndsQ.go st208 ?_
  show EndsQ _ _ _ _ _ _ _ (T208.setTop (mkF m 90 #[.val (.ref (oo 0)), .val (.int (2 : Int32)), .val (.int (0 : Int32)), .val (.int (1 : Int32))] [(.ref (oo 5))]))
  refine EndsQ.go (b := T208.setTop (mkF m 91 #[.val (.ref (oo 0)), .val (.int (2 : Int32)), .val (.int (0 : Int32)), .val (.int (1 : Int32))] [(.ref (oo 0)), (.ref (oo 5))])) (fun t k => ?_) ?_
  · show Steps p.tables e below (T208.setTop (mkF m 90 #[.val (.ref (oo 0)), .val (.int (2 : Int32)), .val (.int (0 : Int32)), .val (.int (1 : Int32))] [(.ref (oo 5))])) _
    refine XS.aloadN X208.here hx rfl (hb hby d6_90) rfl rfl ?_
    exact k
  obtain ⟨T209, X209, e209, st209⟩ := getF X208 hx hZ hown (host := "") (Or.inl (hw _ (List.mem_of_getElem? (i := 21) rfl))) Via.refl e208 f196 (g := (mkF m 91 #[.val (.ref (oo 0)), .val (.int (2 : Int32)), .val (.int (0 : Int32)), .val (.int (1 : Int32))] [(.ref (oo 0)), (.ref (oo 5))])) rfl rfl (hb hby d6_91)
  refine EndsQ.go st209 ?_
  show EndsQ _ _ _ _ _ _ _ (T209.setTop (mkF m 94 #[.val (.ref (oo 0)), .val (.int (2 : Int32)), .val (.int (0 : Int32)), .val (.int (1 : Int32))] [(.ref (oo 6)), (.ref (oo 5))]))
  refine EndsQ.go (b := T209.setTop (mkF m 95 #[.val (.ref (oo 0)), .val (.int (2 : Int32)), .val (.int (0 : Int32)), .val (.int (1 : Int32))] [(.ref (oo 0)), (.ref (oo 6)), (.ref (oo 5))])) (fun t k => ?_) ?_
  · show Steps p.tables e below (T209.setTop (mkF m 94 #[.val (.ref (oo 0)), .val (.int (2 : Int32)), .val (.int (0 : Int32)), .val (.int (1 : Int32))] [(.ref (oo 6)), (.ref (oo 5))])) _
    refine XS.aloadN X209.here hx rfl (hb hby d6_94) rfl rfl ?_
    show Steps p.tables e below (T209.setTop (mkF m 95 #[.val (.ref (oo 0)), .val (.int (2 : Int32)), .val (.int (0 : Int32)), .val (.int (1 : Int32))] [(.ref (oo 0)), (.ref (oo 6)), (.ref (oo 5))])) _
    exact k
  obtain ⟨T210, X210, e210, st210⟩ := getF X209 hx hZ hown (host := "") (Or.inl (hw _ (List.mem_of_getElem? (i := 12) rfl))) Via.refl e209 f192 (g := (mkF m 95 #[.val (.ref (oo 0)), .val (.int (2 : Int32)), .val (.int (0 : Int32)), .val (.int (1 : Int32))] [(.ref (oo 0)), (.ref (oo 6)), (.ref (oo 5))])) rfl rfl (hb hby d6_95)
  refine EndsQ.go st210 ?_
  show EndsQ _ _ _ _ _ _ _ (T210.setTop (mkF m 98 #[.val (.ref (oo 0)), .val (.int (2 : Int32)), .val (.int (0 : Int32)), .val (.int (1 : Int32))] [(.ref (oo 2)), (.ref (oo 6)), (.ref (oo 5))]))
  refine EndsQ.go (b := T210.setTop (mkF m 99 #[.val (.ref (oo 0)), .val (.int (2 : Int32)), .val (.int (0 : Int32)), .val (.int (1 : Int32))] [(.int (0 : Int32)), (.ref (oo 2)), (.ref (oo 6)), (.ref (oo 5))])) (fun t k => ?_) ?_
  · show Steps p.tables e below (T210.setTop (mkF m 98 #[.val (.ref (oo 0)), .val (.int (2 : Int32)), .val (.int (0 : Int32)), .val (.int (1 : Int32))] [(.ref (oo 2)), (.ref (oo 6)), (.ref (oo 5))])) _
    refine XS.iloadN X210.here hx rfl (hb hby d6_98) rfl ?_
    exact k
  obtain ⟨cl211, Ar211, q211, S211, M211, H211, G211⟩ := id f201
  have hin211 : ¬ ((0 : Int32) < 0 ∨ cl211.slots.size ≤ ((0 : Int32)).toNatClampNeg) := inb_of S211 ⟨by decide, by decide⟩
  have hat211 : cl211.slots[((0 : Int32)).toNatClampNeg]? = some (.int (0 : Int32)) := Has.at H211 hin211 rfl
  refine EndsQ.go (fun t k => X210.iaload hx (j := (0 : Int32)) (v := (.int (0 : Int32))) (by rw [e210]; exact Ar211.1) (State.isArrayOf_alike hZ.alike Ar211.2.1) Ar211.2.2 hin211 hat211 (g := (mkF m 99 #[.val (.ref (oo 0)), .val (.int (2 : Int32)), .val (.int (0 : Int32)), .val (.int (1 : Int32))] [(.int (0 : Int32)), (.ref (oo 2)), (.ref (oo 6)), (.ref (oo 5))])) rfl rfl (hb hby d6_99) _ k) ?_
  show EndsQ _ _ _ _ _ _ _ (T210.setTop (mkF m 100 #[.val (.ref (oo 0)), .val (.int (2 : Int32)), .val (.int (0 : Int32)), .val (.int (1 : Int32))] [(.int (0 : Int32)), (.ref (oo 6)), (.ref (oo 5))]))
  refine EndsQ.go (b := T210.setTop (mkF m 101 #[.val (.ref (oo 0)), .val (.int (2 : Int32)), .val (.int (0 : Int32)), .val (.int (1 : Int32))] [(.int (0 : Int32)), (.ref (oo 6)), (.int (0 : Int32)), (.ref (oo 6)), (.ref (oo 5))])) (fun t k => ?_) ?_
  · show Steps p.tables e below (T210.setTop (mkF m 100 #[.val (.ref (oo 0)), .val (.int (2 : Int32)), .val (.int (0 : Int32)), .val (.int (1 : Int32))] [(.int (0 : Int32)), (.ref (oo 6)), (.ref (oo 5))])) _
    refine Jvm.Free.XT.dup2 X210.here hx rfl (hb hby d6_100) rfl rfl rfl ?_
    exact k
  obtain ⟨cl212, Ar212, q212, S212, M212, H212, G212⟩ := id f206
  have hin212 : ¬ ((0 : Int32) < 0 ∨ cl212.slots.size ≤ ((0 : Int32)).toNatClampNeg) := inb_of S212 ⟨by decide, by decide⟩
  have hat212 : cl212.slots[((0 : Int32)).toNatClampNeg]? = some (.int (0 : Int32)) := Has.at H212 hin212 rfl
  refine EndsQ.go (fun t k => X210.iaload hx (j := (0 : Int32)) (v := (.int (0 : Int32))) (by rw [e210]; exact Ar212.1) (State.isArrayOf_alike hZ.alike Ar212.2.1) Ar212.2.2 hin212 hat212 (g := (mkF m 101 #[.val (.ref (oo 0)), .val (.int (2 : Int32)), .val (.int (0 : Int32)), .val (.int (1 : Int32))] [(.int (0 : Int32)), (.ref (oo 6)), (.int (0 : Int32)), (.ref (oo 6)), (.ref (oo 5))])) rfl rfl (hb hby d6_101) _ k) ?_
  show EndsQ _ _ _ _ _ _ _ (T210.setTop (mkF m 102 #[.val (.ref (oo 0)), .val (.int (2 : Int32)), .val (.int (0 : Int32)), .val (.int (1 : Int32))] [(.int (0 : Int32)), (.int (0 : Int32)), (.ref (oo 6)), (.ref (oo 5))]))
  refine EndsQ.go (b := T210.setTop (mkF m 105 #[.val (.ref (oo 0)), .val (.int (2 : Int32)), .val (.int (0 : Int32)), .val (.int (1 : Int32))] [(.int (1 : Int32)), (.int (0 : Int32)), (.ref (oo 6)), (.int (0 : Int32)), (.ref (oo 5))])) (fun t k => ?_) ?_
  · show Steps p.tables e below (T210.setTop (mkF m 102 #[.val (.ref (oo 0)), .val (.int (2 : Int32)), .val (.int (0 : Int32)), .val (.int (1 : Int32))] [(.int (0 : Int32)), (.int (0 : Int32)), (.ref (oo 6)), (.ref (oo 5))])) _
    refine own_dupX2 X210.here hx rfl (hb hby d6_102) rfl rfl rfl rfl ?_
    refine XS.iconst X210.here hx rfl (hb hby d6_103) ?_
    show Steps p.tables e below (T210.setTop (mkF m 104 #[.val (.ref (oo 0)), .val (.int (2 : Int32)), .val (.int (0 : Int32)), .val (.int (1 : Int32))] [(.int (1 : Int32)), (.int (0 : Int32)), (.int (0 : Int32)), (.ref (oo 6)), (.int (0 : Int32)), (.ref (oo 5))])) _
    refine XS.iadd X210.here hx rfl (hb hby d6_104) rfl ?_
    show Steps p.tables e below (T210.setTop (mkF m 105 #[.val (.ref (oo 0)), .val (.int (2 : Int32)), .val (.int (0 : Int32)), .val (.int (1 : Int32))] [(.int ((0 : Int32) + (1 : Int32))), (.int (0 : Int32)), (.ref (oo 6)), (.int (0 : Int32)), (.ref (oo 5))])) _
    rw [(by decide : ((0 : Int32) + (1 : Int32)) = (1 : Int32))]
    show Steps p.tables e below (T210.setTop (mkF m 105 #[.val (.ref (oo 0)), .val (.int (2 : Int32)), .val (.int (0 : Int32)), .val (.int (1 : Int32))] [(.int (1 : Int32)), (.int (0 : Int32)), (.ref (oo 6)), (.int (0 : Int32)), (.ref (oo 5))])) _
    exact k
  obtain ⟨cl213, Ar213, q213, S213, M213, H213, G213⟩ := id f206
  have hin213 : ¬ ((0 : Int32) < 0 ∨ cl213.slots.size ≤ ((0 : Int32)).toNatClampNeg) := inb_of S213 ⟨by decide, by decide⟩
  obtain ⟨T213, h213, X213, e213, W213, st213⟩ := stI X210 hx hZ e210 Ar213 (j := (0 : Int32)) hin213 (g := (mkF m 105 #[.val (.ref (oo 0)), .val (.int (2 : Int32)), .val (.int (0 : Int32)), .val (.int (1 : Int32))] [(.int (1 : Int32)), (.int (0 : Int32)), (.ref (oo 6)), (.int (0 : Int32)), (.ref (oo 5))])) rfl rfl (hb hby d6_105)
  have fa213 : Arv Z h213 (oo 6) (kk 6) .int (16 : Int32) [(.int (1 : Int32)), (.int (1 : Int32)), (.int t2)] (.int (0 : Int32)) := Arv.set Ar213 q213 S213 M213 H213 G213 rfl W213 0 rfl (Nat.le_of_ble_eq_true rfl)
  have f214 := f190.wr W213
  have f215 := f191.other W213 (Or.inl (hne 0 6 (by decide) (by decide) (by decide)))
  have f216 := f192.other W213 (Or.inl (hne 0 6 (by decide) (by decide) (by decide)))
  have f217 := f193.other W213 (Or.inl (hne 0 6 (by decide) (by decide) (by decide)))
  have f218 := f194.other W213 (Or.inl (hne 0 6 (by decide) (by decide) (by decide)))
  have f219 := f195.other W213 (Or.inl (hne 0 6 (by decide) (by decide) (by decide)))
  have f220 := f196.other W213 (Or.inl (hne 0 6 (by decide) (by decide) (by decide)))
  have f221 := f197.other W213 (Or.inl (hne 0 6 (by decide) (by decide) (by decide)))
  have f222 := f198.other W213 (Or.inl (hne 0 6 (by decide) (by decide) (by decide)))
  have f223 := f199.other W213 (Or.inl (hne 0 6 (by decide) (by decide) (by decide)))
  have f224 := f200.other W213 (hne 1 6 (by decide) (by decide) (by decide))
  have f225 := f201.other W213 (hne 2 6 (by decide) (by decide) (by decide))
  have f226 := f202.other W213 (hne 3 6 (by decide) (by decide) (by decide))
  have f227 := f203.other W213 (hne 5 6 (by decide) (by decide) (by decide))
  have f228 := f204.other W213 (hne 7 6 (by decide) (by decide) (by decide))
  have f229 := Nat.le_trans f205 (Keep.of_wr W213).1
  have f230 := fa189.other W213 (hne 4 6 (by decide) (by decide) (by decide))
  have N213 := Fr.snoc X213 N189 (hn 6 (by decide))
  refine EndsQ.go st213 ?_
  show EndsQ _ _ _ _ _ _ _ (T213.setTop (mkF m 106 #[.val (.ref (oo 0)), .val (.int (2 : Int32)), .val (.int (0 : Int32)), .val (.int (1 : Int32))] [(.int (0 : Int32)), (.ref (oo 5))]))
  refine EndsQ.go (b := T213.setTop (mkF m 107 #[.val (.ref (oo 0)), .val (.int (2 : Int32)), .val (.int (0 : Int32)), .val (.int (1 : Int32))] [(.ref (oo 0)), (.int (0 : Int32)), (.ref (oo 5))])) (fun t k => ?_) ?_
  · show Steps p.tables e below (T213.setTop (mkF m 106 #[.val (.ref (oo 0)), .val (.int (2 : Int32)), .val (.int (0 : Int32)), .val (.int (1 : Int32))] [(.int (0 : Int32)), (.ref (oo 5))])) _
    refine XS.aloadN X213.here hx rfl (hb hby d6_106) rfl rfl ?_
    exact k
  obtain ⟨T231, X231, e231, st231⟩ := getF X213 hx hZ hown (host := "") (Or.inl (hw _ (List.mem_of_getElem? (i := 15) rfl))) Via.refl e213 f217 (g := (mkF m 107 #[.val (.ref (oo 0)), .val (.int (2 : Int32)), .val (.int (0 : Int32)), .val (.int (1 : Int32))] [(.ref (oo 0)), (.int (0 : Int32)), (.ref (oo 5))])) rfl rfl (hb hby d6_107)
  refine EndsQ.go st231 ?_
  show EndsQ _ _ _ _ _ _ _ (T231.setTop (mkF m 110 #[.val (.ref (oo 0)), .val (.int (2 : Int32)), .val (.int (0 : Int32)), .val (.int (1 : Int32))] [(.ref (oo 3)), (.int (0 : Int32)), (.ref (oo 5))]))
  refine EndsQ.go (b := T231.setTop (mkF m 111 #[.val (.ref (oo 0)), .val (.int (2 : Int32)), .val (.int (0 : Int32)), .val (.int (1 : Int32))] [(.int (0 : Int32)), (.ref (oo 3)), (.int (0 : Int32)), (.ref (oo 5))])) (fun t k => ?_) ?_
  · show Steps p.tables e below (T231.setTop (mkF m 110 #[.val (.ref (oo 0)), .val (.int (2 : Int32)), .val (.int (0 : Int32)), .val (.int (1 : Int32))] [(.ref (oo 3)), (.int (0 : Int32)), (.ref (oo 5))])) _
    refine XS.iloadN X231.here hx rfl (hb hby d6_110) rfl ?_
    exact k
  obtain ⟨cl232, Ar232, q232, S232, M232, H232, G232⟩ := id f226
  have hin232 : ¬ ((0 : Int32) < 0 ∨ cl232.slots.size ≤ ((0 : Int32)).toNatClampNeg) := inb_of S232 ⟨by decide, by decide⟩
  have hat232 : cl232.slots[((0 : Int32)).toNatClampNeg]? = some (.double d0) := Has.at H232 hin232 rfl
  refine EndsQ.go (fun t k => X231.daload hx (j := (0 : Int32)) (v := (.double d0)) (by rw [e231]; exact Ar232.1) (State.isArrayOf_alike hZ.alike Ar232.2.1) Ar232.2.2 hin232 hat232 (g := (mkF m 111 #[.val (.ref (oo 0)), .val (.int (2 : Int32)), .val (.int (0 : Int32)), .val (.int (1 : Int32))] [(.int (0 : Int32)), (.ref (oo 3)), (.int (0 : Int32)), (.ref (oo 5))])) rfl rfl (hb hby d6_111) _ k) ?_
  show EndsQ _ _ _ _ _ _ _ (T231.setTop (mkF m 112 #[.val (.ref (oo 0)), .val (.int (2 : Int32)), .val (.int (0 : Int32)), .val (.int (1 : Int32))] [(.double d0), (.int (0 : Int32)), (.ref (oo 5))]))
  obtain ⟨cl233, Ar233, q233, S233, M233, H233, G233⟩ := id f227
  have hin233 : ¬ ((0 : Int32) < 0 ∨ cl233.slots.size ≤ ((0 : Int32)).toNatClampNeg) := inb_of S233 ⟨by decide, by decide⟩
  obtain ⟨T233, h233, X233, e233, W233, st233⟩ := stD X231 hx hZ e231 Ar233 (j := (0 : Int32)) hin233 (g := (mkF m 112 #[.val (.ref (oo 0)), .val (.int (2 : Int32)), .val (.int (0 : Int32)), .val (.int (1 : Int32))] [(.double d0), (.int (0 : Int32)), (.ref (oo 5))])) rfl rfl (hb hby d6_112)
  have fa233 : Arv Z h233 (oo 5) (kk 5) .double (64 : Int32) [(.double d0), (.double g1), (.double g2)] (.double (0 : UInt64)) := Arv.set Ar233 q233 S233 M233 H233 G233 rfl W233 0 rfl (Nat.le_of_ble_eq_true rfl)
  have f234 := f214.wr W233
  have f235 := f215.other W233 (Or.inl (hne 0 5 (by decide) (by decide) (by decide)))
  have f236 := f216.other W233 (Or.inl (hne 0 5 (by decide) (by decide) (by decide)))
  have f237 := f217.other W233 (Or.inl (hne 0 5 (by decide) (by decide) (by decide)))
  have f238 := f218.other W233 (Or.inl (hne 0 5 (by decide) (by decide) (by decide)))
  have f239 := f219.other W233 (Or.inl (hne 0 5 (by decide) (by decide) (by decide)))
  have f240 := f220.other W233 (Or.inl (hne 0 5 (by decide) (by decide) (by decide)))
  have f241 := f221.other W233 (Or.inl (hne 0 5 (by decide) (by decide) (by decide)))
  have f242 := f222.other W233 (Or.inl (hne 0 5 (by decide) (by decide) (by decide)))
  have f243 := f223.other W233 (Or.inl (hne 0 5 (by decide) (by decide) (by decide)))
  have f244 := f224.other W233 (hne 1 5 (by decide) (by decide) (by decide))
  have f245 := f225.other W233 (hne 2 5 (by decide) (by decide) (by decide))
  have f246 := f226.other W233 (hne 3 5 (by decide) (by decide) (by decide))
  have f247 := f228.other W233 (hne 7 5 (by decide) (by decide) (by decide))
  have f248 := Nat.le_trans f229 (Keep.of_wr W233).1
  have f249 := f230.other W233 (hne 4 5 (by decide) (by decide) (by decide))
  have f250 := fa213.other W233 (hne 6 5 (by decide) (by decide) (by decide))
  have N233 := Fr.snoc X233 N213 (hn 5 (by decide))
  refine EndsQ.go st233 ?_
  show EndsQ _ _ _ _ _ _ _ (T233.setTop (mkF m 113 #[.val (.ref (oo 0)), .val (.int (2 : Int32)), .val (.int (0 : Int32)), .val (.int (1 : Int32))] []))
  refine EndsQ.go (b := T233.setTop (mkF m 80 #[.val (.ref (oo 0)), .val (.int (2 : Int32)), .val (.int (1 : Int32)), .val (.int (1 : Int32))] [(.ref (oo 0)), (.int (1 : Int32))])) (fun t k => ?_) ?_
  · show Steps p.tables e below (T233.setTop (mkF m 113 #[.val (.ref (oo 0)), .val (.int (2 : Int32)), .val (.int (0 : Int32)), .val (.int (1 : Int32))] [])) _
    refine XS.iinc X233.here hx rfl (hb hby d6_113) rfl (l' := #[.val (.ref (oo 0)), .val (.int (2 : Int32)), .val (.int ((0 : Int32) + Int32.ofInt 1)), .val (.int (1 : Int32))]) rfl ?_
    show Steps p.tables e below (T233.setTop (mkF m 116 #[.val (.ref (oo 0)), .val (.int (2 : Int32)), .val (.int ((0 : Int32) + Int32.ofInt 1)), .val (.int (1 : Int32))] [])) _
    rw [(by decide : ((0 : Int32) + Int32.ofInt 1) = (1 : Int32))]
    show Steps p.tables e below (T233.setTop (mkF m 116 #[.val (.ref (oo 0)), .val (.int (2 : Int32)), .val (.int (1 : Int32)), .val (.int (1 : Int32))] [])) _
    refine XS.goto X233.here hx rfl (pc0 := 116) (pc' := 78) rfl (hb hby d6_116) (by decide) (by decide) ?_
    refine XS.iloadN X233.here hx rfl (hb hby d6_78) rfl ?_
    refine XS.aloadN X233.here hx rfl (hb hby d6_79) rfl rfl ?_
    exact k
  obtain ⟨T251, X251, e251, st251⟩ := getF X233 hx hZ hown (host := "") (Or.inl (hw _ (List.mem_of_getElem? (i := 35) rfl))) Via.refl e233 f243 (g := (mkF m 80 #[.val (.ref (oo 0)), .val (.int (2 : Int32)), .val (.int (1 : Int32)), .val (.int (1 : Int32))] [(.ref (oo 0)), (.int (1 : Int32))])) rfl rfl (hb hby d6_80)
  refine EndsQ.go st251 ?_
  show EndsQ _ _ _ _ _ _ _ (T251.setTop (mkF m 83 #[.val (.ref (oo 0)), .val (.int (2 : Int32)), .val (.int (1 : Int32)), .val (.int (1 : Int32))] [(.int (2 : Int32)), (.int (1 : Int32))]))
  refine EndsQ.go (b := T251.setTop (mkF m 87 #[.val (.ref (oo 0)), .val (.int (2 : Int32)), .val (.int (1 : Int32)), .val (.int (1 : Int32))] [(.ref (oo 0))])) (fun t k => ?_) ?_
  · show Steps p.tables e below (T251.setTop (mkF m 83 #[.val (.ref (oo 0)), .val (.int (2 : Int32)), .val (.int (1 : Int32)), .val (.int (1 : Int32))] [(.int (2 : Int32)), (.int (1 : Int32))])) _
    refine XS.icmpNo X251.here hx rfl (hb hby d6_83) rfl (tlt (by decide)).2.1 ?_
    show Steps p.tables e below (T251.setTop (mkF m 86 #[.val (.ref (oo 0)), .val (.int (2 : Int32)), .val (.int (1 : Int32)), .val (.int (1 : Int32))] [])) _
    refine XS.aloadN X251.here hx rfl (hb hby d6_86) rfl rfl ?_
    show Steps p.tables e below (T251.setTop (mkF m 87 #[.val (.ref (oo 0)), .val (.int (2 : Int32)), .val (.int (1 : Int32)), .val (.int (1 : Int32))] [(.ref (oo 0))])) _
    exact k
  obtain ⟨T252, X252, e252, st252⟩ := getF X251 hx hZ hown (host := "") (Or.inl (hw _ (List.mem_of_getElem? (i := 19) rfl))) Via.refl e251 f239 (g := (mkF m 87 #[.val (.ref (oo 0)), .val (.int (2 : Int32)), .val (.int (1 : Int32)), .val (.int (1 : Int32))] [(.ref (oo 0))])) rfl rfl (hb hby d6_87)
  refine EndsQ.go st252 ?_
  show EndsQ _ _ _ _ _ _ _ (T252.setTop (mkF m 90 #[.val (.ref (oo 0)), .val (.int (2 : Int32)), .val (.int (1 : Int32)), .val (.int (1 : Int32))] [(.ref (oo 5))]))
  refine EndsQ.go (b := T252.setTop (mkF m 91 #[.val (.ref (oo 0)), .val (.int (2 : Int32)), .val (.int (1 : Int32)), .val (.int (1 : Int32))] [(.ref (oo 0)), (.ref (oo 5))])) (fun t k => ?_) ?_
  · show Steps p.tables e below (T252.setTop (mkF m 90 #[.val (.ref (oo 0)), .val (.int (2 : Int32)), .val (.int (1 : Int32)), .val (.int (1 : Int32))] [(.ref (oo 5))])) _
    refine XS.aloadN X252.here hx rfl (hb hby d6_90) rfl rfl ?_
    exact k
  obtain ⟨T253, X253, e253, st253⟩ := getF X252 hx hZ hown (host := "") (Or.inl (hw _ (List.mem_of_getElem? (i := 21) rfl))) Via.refl e252 f240 (g := (mkF m 91 #[.val (.ref (oo 0)), .val (.int (2 : Int32)), .val (.int (1 : Int32)), .val (.int (1 : Int32))] [(.ref (oo 0)), (.ref (oo 5))])) rfl rfl (hb hby d6_91)
  refine EndsQ.go st253 ?_
  show EndsQ _ _ _ _ _ _ _ (T253.setTop (mkF m 94 #[.val (.ref (oo 0)), .val (.int (2 : Int32)), .val (.int (1 : Int32)), .val (.int (1 : Int32))] [(.ref (oo 6)), (.ref (oo 5))]))
  refine EndsQ.go (b := T253.setTop (mkF m 95 #[.val (.ref (oo 0)), .val (.int (2 : Int32)), .val (.int (1 : Int32)), .val (.int (1 : Int32))] [(.ref (oo 0)), (.ref (oo 6)), (.ref (oo 5))])) (fun t k => ?_) ?_
  · show Steps p.tables e below (T253.setTop (mkF m 94 #[.val (.ref (oo 0)), .val (.int (2 : Int32)), .val (.int (1 : Int32)), .val (.int (1 : Int32))] [(.ref (oo 6)), (.ref (oo 5))])) _
    refine XS.aloadN X253.here hx rfl (hb hby d6_94) rfl rfl ?_
    exact k
  obtain ⟨T254, X254, e254, st254⟩ := getF X253 hx hZ hown (host := "") (Or.inl (hw _ (List.mem_of_getElem? (i := 12) rfl))) Via.refl e253 f236 (g := (mkF m 95 #[.val (.ref (oo 0)), .val (.int (2 : Int32)), .val (.int (1 : Int32)), .val (.int (1 : Int32))] [(.ref (oo 0)), (.ref (oo 6)), (.ref (oo 5))])) rfl rfl (hb hby d6_95)
  refine EndsQ.go st254 ?_
  show EndsQ _ _ _ _ _ _ _ (T254.setTop (mkF m 98 #[.val (.ref (oo 0)), .val (.int (2 : Int32)), .val (.int (1 : Int32)), .val (.int (1 : Int32))] [(.ref (oo 2)), (.ref (oo 6)), (.ref (oo 5))]))
  refine EndsQ.go (b := T254.setTop (mkF m 99 #[.val (.ref (oo 0)), .val (.int (2 : Int32)), .val (.int (1 : Int32)), .val (.int (1 : Int32))] [(.int (1 : Int32)), (.ref (oo 2)), (.ref (oo 6)), (.ref (oo 5))])) (fun t k => ?_) ?_
  · show Steps p.tables e below (T254.setTop (mkF m 98 #[.val (.ref (oo 0)), .val (.int (2 : Int32)), .val (.int (1 : Int32)), .val (.int (1 : Int32))] [(.ref (oo 2)), (.ref (oo 6)), (.ref (oo 5))])) _
    refine XS.iloadN X254.here hx rfl (hb hby d6_98) rfl ?_
    exact k
  obtain ⟨cl255, Ar255, q255, S255, M255, H255, G255⟩ := id f245
  have hin255 : ¬ ((1 : Int32) < 0 ∨ cl255.slots.size ≤ ((1 : Int32)).toNatClampNeg) := inb_of S255 ⟨by decide, by decide⟩
  have hat255 : cl255.slots[((1 : Int32)).toNatClampNeg]? = some (.int (1 : Int32)) := Has.at H255 hin255 rfl
  refine EndsQ.go (fun t k => X254.iaload hx (j := (1 : Int32)) (v := (.int (1 : Int32))) (by rw [e254]; exact Ar255.1) (State.isArrayOf_alike hZ.alike Ar255.2.1) Ar255.2.2 hin255 hat255 (g := (mkF m 99 #[.val (.ref (oo 0)), .val (.int (2 : Int32)), .val (.int (1 : Int32)), .val (.int (1 : Int32))] [(.int (1 : Int32)), (.ref (oo 2)), (.ref (oo 6)), (.ref (oo 5))])) rfl rfl (hb hby d6_99) _ k) ?_
  show EndsQ _ _ _ _ _ _ _ (T254.setTop (mkF m 100 #[.val (.ref (oo 0)), .val (.int (2 : Int32)), .val (.int (1 : Int32)), .val (.int (1 : Int32))] [(.int (1 : Int32)), (.ref (oo 6)), (.ref (oo 5))]))
  refine EndsQ.go (b := T254.setTop (mkF m 101 #[.val (.ref (oo 0)), .val (.int (2 : Int32)), .val (.int (1 : Int32)), .val (.int (1 : Int32))] [(.int (1 : Int32)), (.ref (oo 6)), (.int (1 : Int32)), (.ref (oo 6)), (.ref (oo 5))])) (fun t k => ?_) ?_
  · show Steps p.tables e below (T254.setTop (mkF m 100 #[.val (.ref (oo 0)), .val (.int (2 : Int32)), .val (.int (1 : Int32)), .val (.int (1 : Int32))] [(.int (1 : Int32)), (.ref (oo 6)), (.ref (oo 5))])) _
    refine Jvm.Free.XT.dup2 X254.here hx rfl (hb hby d6_100) rfl rfl rfl ?_
    show Steps p.tables e below (T254.setTop (mkF m 101 #[.val (.ref (oo 0)), .val (.int (2 : Int32)), .val (.int (1 : Int32)), .val (.int (1 : Int32))] [(.int (1 : Int32)), (.ref (oo 6)), (.int (1 : Int32)), (.ref (oo 6)), (.ref (oo 5))])) _
    exact k
  obtain ⟨cl256, Ar256, q256, S256, M256, H256, G256⟩ := id f250
  have hin256 : ¬ ((1 : Int32) < 0 ∨ cl256.slots.size ≤ ((1 : Int32)).toNatClampNeg) := inb_of S256 ⟨by decide, by decide⟩
  have hat256 : cl256.slots[((1 : Int32)).toNatClampNeg]? = some (.int (1 : Int32)) := Has.at H256 hin256 rfl
  refine EndsQ.go (fun t k => X254.iaload hx (j := (1 : Int32)) (v := (.int (1 : Int32))) (by rw [e254]; exact Ar256.1) (State.isArrayOf_alike hZ.alike Ar256.2.1) Ar256.2.2 hin256 hat256 (g := (mkF m 101 #[.val (.ref (oo 0)), .val (.int (2 : Int32)), .val (.int (1 : Int32)), .val (.int (1 : Int32))] [(.int (1 : Int32)), (.ref (oo 6)), (.int (1 : Int32)), (.ref (oo 6)), (.ref (oo 5))])) rfl rfl (hb hby d6_101) _ k) ?_
  show EndsQ _ _ _ _ _ _ _ (T254.setTop (mkF m 102 #[.val (.ref (oo 0)), .val (.int (2 : Int32)), .val (.int (1 : Int32)), .val (.int (1 : Int32))] [(.int (1 : Int32)), (.int (1 : Int32)), (.ref (oo 6)), (.ref (oo 5))]))
  refine EndsQ.go (b := T254.setTop (mkF m 105 #[.val (.ref (oo 0)), .val (.int (2 : Int32)), .val (.int (1 : Int32)), .val (.int (1 : Int32))] [(.int (2 : Int32)), (.int (1 : Int32)), (.ref (oo 6)), (.int (1 : Int32)), (.ref (oo 5))])) (fun t k => ?_) ?_
  · show Steps p.tables e below (T254.setTop (mkF m 102 #[.val (.ref (oo 0)), .val (.int (2 : Int32)), .val (.int (1 : Int32)), .val (.int (1 : Int32))] [(.int (1 : Int32)), (.int (1 : Int32)), (.ref (oo 6)), (.ref (oo 5))])) _
    refine own_dupX2 X254.here hx rfl (hb hby d6_102) rfl rfl rfl rfl ?_
    refine XS.iconst X254.here hx rfl (hb hby d6_103) ?_
    refine XS.iadd X254.here hx rfl (hb hby d6_104) rfl ?_
    show Steps p.tables e below (T254.setTop (mkF m 105 #[.val (.ref (oo 0)), .val (.int (2 : Int32)), .val (.int (1 : Int32)), .val (.int (1 : Int32))] [(.int ((1 : Int32) + (1 : Int32))), (.int (1 : Int32)), (.ref (oo 6)), (.int (1 : Int32)), (.ref (oo 5))])) _
    rw [(by decide : ((1 : Int32) + (1 : Int32)) = (2 : Int32))]
    show Steps p.tables e below (T254.setTop (mkF m 105 #[.val (.ref (oo 0)), .val (.int (2 : Int32)), .val (.int (1 : Int32)), .val (.int (1 : Int32))] [(.int (2 : Int32)), (.int (1 : Int32)), (.ref (oo 6)), (.int (1 : Int32)), (.ref (oo 5))])) _
    exact k
  obtain ⟨cl257, Ar257, q257, S257, M257, H257, G257⟩ := id f250
  have hin257 : ¬ ((1 : Int32) < 0 ∨ cl257.slots.size ≤ ((1 : Int32)).toNatClampNeg) := inb_of S257 ⟨by decide, by decide⟩
  obtain ⟨T257, h257, X257, e257, W257, st257⟩ := stI X254 hx hZ e254 Ar257 (j := (1 : Int32)) hin257 (g := (mkF m 105 #[.val (.ref (oo 0)), .val (.int (2 : Int32)), .val (.int (1 : Int32)), .val (.int (1 : Int32))] [(.int (2 : Int32)), (.int (1 : Int32)), (.ref (oo 6)), (.int (1 : Int32)), (.ref (oo 5))])) rfl rfl (hb hby d6_105)
  have fa257 : Arv Z h257 (oo 6) (kk 6) .int (16 : Int32) [(.int (1 : Int32)), (.int (2 : Int32)), (.int t2)] (.int (0 : Int32)) := Arv.set Ar257 q257 S257 M257 H257 G257 rfl W257 1 rfl (Nat.le_of_ble_eq_true rfl)
  have f258 := f234.wr W257
  have f259 := f235.other W257 (Or.inl (hne 0 6 (by decide) (by decide) (by decide)))
  have f260 := f236.other W257 (Or.inl (hne 0 6 (by decide) (by decide) (by decide)))
  have f261 := f237.other W257 (Or.inl (hne 0 6 (by decide) (by decide) (by decide)))
  have f262 := f238.other W257 (Or.inl (hne 0 6 (by decide) (by decide) (by decide)))
  have f263 := f239.other W257 (Or.inl (hne 0 6 (by decide) (by decide) (by decide)))
  have f264 := f240.other W257 (Or.inl (hne 0 6 (by decide) (by decide) (by decide)))
  have f265 := f241.other W257 (Or.inl (hne 0 6 (by decide) (by decide) (by decide)))
  have f266 := f242.other W257 (Or.inl (hne 0 6 (by decide) (by decide) (by decide)))
  have f267 := f243.other W257 (Or.inl (hne 0 6 (by decide) (by decide) (by decide)))
  have f268 := f244.other W257 (hne 1 6 (by decide) (by decide) (by decide))
  have f269 := f245.other W257 (hne 2 6 (by decide) (by decide) (by decide))
  have f270 := f246.other W257 (hne 3 6 (by decide) (by decide) (by decide))
  have f271 := f247.other W257 (hne 7 6 (by decide) (by decide) (by decide))
  have f272 := Nat.le_trans f248 (Keep.of_wr W257).1
  have f273 := f249.other W257 (hne 4 6 (by decide) (by decide) (by decide))
  have f274 := fa233.other W257 (hne 5 6 (by decide) (by decide) (by decide))
  have N257 := Fr.snoc X257 N233 (hn 6 (by decide))
  refine EndsQ.go st257 ?_
  show EndsQ _ _ _ _ _ _ _ (T257.setTop (mkF m 106 #[.val (.ref (oo 0)), .val (.int (2 : Int32)), .val (.int (1 : Int32)), .val (.int (1 : Int32))] [(.int (1 : Int32)), (.ref (oo 5))]))
  refine EndsQ.go (b := T257.setTop (mkF m 107 #[.val (.ref (oo 0)), .val (.int (2 : Int32)), .val (.int (1 : Int32)), .val (.int (1 : Int32))] [(.ref (oo 0)), (.int (1 : Int32)), (.ref (oo 5))])) (fun t k => ?_) ?_
  · show Steps p.tables e below (T257.setTop (mkF m 106 #[.val (.ref (oo 0)), .val (.int (2 : Int32)), .val (.int (1 : Int32)), .val (.int (1 : Int32))] [(.int (1 : Int32)), (.ref (oo 5))])) _
    refine XS.aloadN X257.here hx rfl (hb hby d6_106) rfl rfl ?_
    show Steps p.tables e below (T257.setTop (mkF m 107 #[.val (.ref (oo 0)), .val (.int (2 : Int32)), .val (.int (1 : Int32)), .val (.int (1 : Int32))] [(.ref (oo 0)), (.int (1 : Int32)), (.ref (oo 5))])) _
    exact k
  obtain ⟨T275, X275, e275, st275⟩ := getF X257 hx hZ hown (host := "") (Or.inl (hw _ (List.mem_of_getElem? (i := 15) rfl))) Via.refl e257 f261 (g := (mkF m 107 #[.val (.ref (oo 0)), .val (.int (2 : Int32)), .val (.int (1 : Int32)), .val (.int (1 : Int32))] [(.ref (oo 0)), (.int (1 : Int32)), (.ref (oo 5))])) rfl rfl (hb hby d6_107)
  refine EndsQ.go st275 ?_
  show EndsQ _ _ _ _ _ _ _ (T275.setTop (mkF m 110 #[.val (.ref (oo 0)), .val (.int (2 : Int32)), .val (.int (1 : Int32)), .val (.int (1 : Int32))] [(.ref (oo 3)), (.int (1 : Int32)), (.ref (oo 5))]))
  refine EndsQ.go (b := T275.setTop (mkF m 111 #[.val (.ref (oo 0)), .val (.int (2 : Int32)), .val (.int (1 : Int32)), .val (.int (1 : Int32))] [(.int (1 : Int32)), (.ref (oo 3)), (.int (1 : Int32)), (.ref (oo 5))])) (fun t k => ?_) ?_
  · show Steps p.tables e below (T275.setTop (mkF m 110 #[.val (.ref (oo 0)), .val (.int (2 : Int32)), .val (.int (1 : Int32)), .val (.int (1 : Int32))] [(.ref (oo 3)), (.int (1 : Int32)), (.ref (oo 5))])) _
    refine XS.iloadN X275.here hx rfl (hb hby d6_110) rfl ?_
    exact k
  obtain ⟨cl276, Ar276, q276, S276, M276, H276, G276⟩ := id f270
  have hin276 : ¬ ((1 : Int32) < 0 ∨ cl276.slots.size ≤ ((1 : Int32)).toNatClampNeg) := inb_of S276 ⟨by decide, by decide⟩
  have hat276 : cl276.slots[((1 : Int32)).toNatClampNeg]? = some (.double d1) := Has.at H276 hin276 rfl
  refine EndsQ.go (fun t k => X275.daload hx (j := (1 : Int32)) (v := (.double d1)) (by rw [e275]; exact Ar276.1) (State.isArrayOf_alike hZ.alike Ar276.2.1) Ar276.2.2 hin276 hat276 (g := (mkF m 111 #[.val (.ref (oo 0)), .val (.int (2 : Int32)), .val (.int (1 : Int32)), .val (.int (1 : Int32))] [(.int (1 : Int32)), (.ref (oo 3)), (.int (1 : Int32)), (.ref (oo 5))])) rfl rfl (hb hby d6_111) _ k) ?_
  show EndsQ _ _ _ _ _ _ _ (T275.setTop (mkF m 112 #[.val (.ref (oo 0)), .val (.int (2 : Int32)), .val (.int (1 : Int32)), .val (.int (1 : Int32))] [(.double d1), (.int (1 : Int32)), (.ref (oo 5))]))
  obtain ⟨cl277, Ar277, q277, S277, M277, H277, G277⟩ := id f274
  have hin277 : ¬ ((1 : Int32) < 0 ∨ cl277.slots.size ≤ ((1 : Int32)).toNatClampNeg) := inb_of S277 ⟨by decide, by decide⟩
  obtain ⟨T277, h277, X277, e277, W277, st277⟩ := stD X275 hx hZ e275 Ar277 (j := (1 : Int32)) hin277 (g := (mkF m 112 #[.val (.ref (oo 0)), .val (.int (2 : Int32)), .val (.int (1 : Int32)), .val (.int (1 : Int32))] [(.double d1), (.int (1 : Int32)), (.ref (oo 5))])) rfl rfl (hb hby d6_112)
  have fa277 : Arv Z h277 (oo 5) (kk 5) .double (64 : Int32) [(.double d0), (.double d1), (.double g2)] (.double (0 : UInt64)) := Arv.set Ar277 q277 S277 M277 H277 G277 rfl W277 1 rfl (Nat.le_of_ble_eq_true rfl)
  have f278 := f258.wr W277
  have f279 := f259.other W277 (Or.inl (hne 0 5 (by decide) (by decide) (by decide)))
  have f280 := f260.other W277 (Or.inl (hne 0 5 (by decide) (by decide) (by decide)))
  have f281 := f261.other W277 (Or.inl (hne 0 5 (by decide) (by decide) (by decide)))
  have f282 := f262.other W277 (Or.inl (hne 0 5 (by decide) (by decide) (by decide)))
  have f283 := f263.other W277 (Or.inl (hne 0 5 (by decide) (by decide) (by decide)))
  have f284 := f264.other W277 (Or.inl (hne 0 5 (by decide) (by decide) (by decide)))
  have f285 := f265.other W277 (Or.inl (hne 0 5 (by decide) (by decide) (by decide)))
  have f286 := f266.other W277 (Or.inl (hne 0 5 (by decide) (by decide) (by decide)))
  have f287 := f267.other W277 (Or.inl (hne 0 5 (by decide) (by decide) (by decide)))
  have f288 := f268.other W277 (hne 1 5 (by decide) (by decide) (by decide))
  have f289 := f269.other W277 (hne 2 5 (by decide) (by decide) (by decide))
  have f290 := f270.other W277 (hne 3 5 (by decide) (by decide) (by decide))
  have f291 := f271.other W277 (hne 7 5 (by decide) (by decide) (by decide))
  have f292 := Nat.le_trans f272 (Keep.of_wr W277).1
  have f293 := f273.other W277 (hne 4 5 (by decide) (by decide) (by decide))
  have f294 := fa257.other W277 (hne 6 5 (by decide) (by decide) (by decide))
  have N277 := Fr.snoc X277 N257 (hn 5 (by decide))
  refine EndsQ.go st277 ?_
  show EndsQ _ _ _ _ _ _ _ (T277.setTop (mkF m 113 #[.val (.ref (oo 0)), .val (.int (2 : Int32)), .val (.int (1 : Int32)), .val (.int (1 : Int32))] []))
  refine EndsQ.go (b := T277.setTop (mkF m 80 #[.val (.ref (oo 0)), .val (.int (2 : Int32)), .val (.int (2 : Int32)), .val (.int (1 : Int32))] [(.ref (oo 0)), (.int (2 : Int32))])) (fun t k => ?_) ?_
  · show Steps p.tables e below (T277.setTop (mkF m 113 #[.val (.ref (oo 0)), .val (.int (2 : Int32)), .val (.int (1 : Int32)), .val (.int (1 : Int32))] [])) _
    refine XS.iinc X277.here hx rfl (hb hby d6_113) rfl (l' := #[.val (.ref (oo 0)), .val (.int (2 : Int32)), .val (.int ((1 : Int32) + Int32.ofInt 1)), .val (.int (1 : Int32))]) rfl ?_
    show Steps p.tables e below (T277.setTop (mkF m 116 #[.val (.ref (oo 0)), .val (.int (2 : Int32)), .val (.int ((1 : Int32) + Int32.ofInt 1)), .val (.int (1 : Int32))] [])) _
    rw [(by decide : ((1 : Int32) + Int32.ofInt 1) = (2 : Int32))]
    show Steps p.tables e below (T277.setTop (mkF m 116 #[.val (.ref (oo 0)), .val (.int (2 : Int32)), .val (.int (2 : Int32)), .val (.int (1 : Int32))] [])) _
    refine XS.goto X277.here hx rfl (pc0 := 116) (pc' := 78) rfl (hb hby d6_116) (by decide) (by decide) ?_
    refine XS.iloadN X277.here hx rfl (hb hby d6_78) rfl ?_
    show Steps p.tables e below (T277.setTop (mkF m 79 #[.val (.ref (oo 0)), .val (.int (2 : Int32)), .val (.int (2 : Int32)), .val (.int (1 : Int32))] [(.int (2 : Int32))])) _
    refine XS.aloadN X277.here hx rfl (hb hby d6_79) rfl rfl ?_
    exact k
  obtain ⟨T295, X295, e295, st295⟩ := getF X277 hx hZ hown (host := "") (Or.inl (hw _ (List.mem_of_getElem? (i := 35) rfl))) Via.refl e277 f287 (g := (mkF m 80 #[.val (.ref (oo 0)), .val (.int (2 : Int32)), .val (.int (2 : Int32)), .val (.int (1 : Int32))] [(.ref (oo 0)), (.int (2 : Int32))])) rfl rfl (hb hby d6_80)
  refine EndsQ.go st295 ?_
  show EndsQ _ _ _ _ _ _ _ (T295.setTop (mkF m 83 #[.val (.ref (oo 0)), .val (.int (2 : Int32)), .val (.int (2 : Int32)), .val (.int (1 : Int32))] [(.int (2 : Int32)), (.int (2 : Int32))]))
  refine EndsQ.go (b := T295.setTop (mkF m 123 #[.val (.ref (oo 0)), .val (.int (2 : Int32)), .val (.int (0 : Int32)), .val (.int (1 : Int32))] [(.ref (oo 0)), (.int (0 : Int32))])) (fun t k => ?_) ?_
  · show Steps p.tables e below (T295.setTop (mkF m 83 #[.val (.ref (oo 0)), .val (.int (2 : Int32)), .val (.int (2 : Int32)), .val (.int (1 : Int32))] [(.int (2 : Int32)), (.int (2 : Int32))])) _
    refine XS.icmpYes X295.here hx rfl (pc0 := 83) (pc' := 119) rfl (hb hby d6_83) rfl (flt (by decide)).2.1 (by decide) (by decide) ?_
    show Steps p.tables e below (T295.setTop (mkF m 119 #[.val (.ref (oo 0)), .val (.int (2 : Int32)), .val (.int (2 : Int32)), .val (.int (1 : Int32))] [])) _
    refine XS.iconst X295.here hx rfl (hb hby d6_119) ?_
    refine XS.istoreN X295.here hx rfl (hb hby d6_120) rfl (l' := #[.val (.ref (oo 0)), .val (.int (2 : Int32)), .val (.int (0 : Int32)), .val (.int (1 : Int32))]) rfl ?_
    refine XS.iloadN X295.here hx rfl (hb hby d6_121) rfl ?_
    show Steps p.tables e below (T295.setTop (mkF m 122 #[.val (.ref (oo 0)), .val (.int (2 : Int32)), .val (.int (0 : Int32)), .val (.int (1 : Int32))] [(.int (0 : Int32))])) _
    refine XS.aloadN X295.here hx rfl (hb hby d6_122) rfl rfl ?_
    exact k
  obtain ⟨T296, X296, e296, st296⟩ := getF X295 hx hZ hown (host := "") (Or.inl (hw _ (List.mem_of_getElem? (i := 37) rfl))) Via.refl e295 f286 (g := (mkF m 123 #[.val (.ref (oo 0)), .val (.int (2 : Int32)), .val (.int (0 : Int32)), .val (.int (1 : Int32))] [(.ref (oo 0)), (.int (0 : Int32))])) rfl rfl (hb hby d6_123)
  refine EndsQ.go st296 ?_
  show EndsQ _ _ _ _ _ _ _ (T296.setTop (mkF m 126 #[.val (.ref (oo 0)), .val (.int (2 : Int32)), .val (.int (0 : Int32)), .val (.int (1 : Int32))] [(.int (2 : Int32)), (.int (0 : Int32))]))
  refine EndsQ.go (b := T296.setTop (mkF m 130 #[.val (.ref (oo 0)), .val (.int (2 : Int32)), .val (.int (0 : Int32)), .val (.int (1 : Int32))] [(.ref (oo 0))])) (fun t k => ?_) ?_
  · show Steps p.tables e below (T296.setTop (mkF m 126 #[.val (.ref (oo 0)), .val (.int (2 : Int32)), .val (.int (0 : Int32)), .val (.int (1 : Int32))] [(.int (2 : Int32)), (.int (0 : Int32))])) _
    refine XS.icmpNo X296.here hx rfl (hb hby d6_126) rfl (tlt (by decide)).2.1 ?_
    show Steps p.tables e below (T296.setTop (mkF m 129 #[.val (.ref (oo 0)), .val (.int (2 : Int32)), .val (.int (0 : Int32)), .val (.int (1 : Int32))] [])) _
    refine XS.aloadN X296.here hx rfl (hb hby d6_129) rfl rfl ?_
    exact k
  obtain ⟨T297, X297, e297, st297⟩ := getF X296 hx hZ hown (host := "") (Or.inl (hw _ (List.mem_of_getElem? (i := 21) rfl))) Via.refl e296 f284 (g := (mkF m 130 #[.val (.ref (oo 0)), .val (.int (2 : Int32)), .val (.int (0 : Int32)), .val (.int (1 : Int32))] [(.ref (oo 0))])) rfl rfl (hb hby d6_130)
  refine EndsQ.go st297 ?_
  show EndsQ _ _ _ _ _ _ _ (T297.setTop (mkF m 133 #[.val (.ref (oo 0)), .val (.int (2 : Int32)), .val (.int (0 : Int32)), .val (.int (1 : Int32))] [(.ref (oo 6))]))
  refine EndsQ.go (b := T297.setTop (mkF m 135 #[.val (.ref (oo 0)), .val (.int (2 : Int32)), .val (.int (0 : Int32)), .val (.int (1 : Int32))] [(.int (0 : Int32)), (.int (0 : Int32)), (.ref (oo 6))])) (fun t k => ?_) ?_
  · show Steps p.tables e below (T297.setTop (mkF m 133 #[.val (.ref (oo 0)), .val (.int (2 : Int32)), .val (.int (0 : Int32)), .val (.int (1 : Int32))] [(.ref (oo 6))])) _
    refine XS.iloadN X297.here hx rfl (hb hby d6_133) rfl ?_
    refine XS.iconst X297.here hx rfl (hb hby d6_134) ?_
    show Steps p.tables e below (T297.setTop (mkF m 135 #[.val (.ref (oo 0)), .val (.int (2 : Int32)), .val (.int (0 : Int32)), .val (.int (1 : Int32))] [(.int (0 : Int32)), (.int (0 : Int32)), (.ref (oo 6))])) _
    exact k
  obtain ⟨cl298, Ar298, q298, S298, M298, H298, G298⟩ := id f294
  have hin298 : ¬ ((0 : Int32) < 0 ∨ cl298.slots.size ≤ ((0 : Int32)).toNatClampNeg) := inb_of S298 ⟨by decide, by decide⟩
  obtain ⟨T298, h298, X298, e298, W298, st298⟩ := stI X297 hx hZ e297 Ar298 (j := (0 : Int32)) hin298 (g := (mkF m 135 #[.val (.ref (oo 0)), .val (.int (2 : Int32)), .val (.int (0 : Int32)), .val (.int (1 : Int32))] [(.int (0 : Int32)), (.int (0 : Int32)), (.ref (oo 6))])) rfl rfl (hb hby d6_135)
  have fa298 : Arv Z h298 (oo 6) (kk 6) .int (16 : Int32) [(.int (0 : Int32)), (.int (2 : Int32)), (.int t2)] (.int (0 : Int32)) := Arv.set Ar298 q298 S298 M298 H298 G298 rfl W298 0 rfl (Nat.le_of_ble_eq_true rfl)
  have f299 := f278.wr W298
  have f300 := f279.other W298 (Or.inl (hne 0 6 (by decide) (by decide) (by decide)))
  have f301 := f280.other W298 (Or.inl (hne 0 6 (by decide) (by decide) (by decide)))
  have f302 := f281.other W298 (Or.inl (hne 0 6 (by decide) (by decide) (by decide)))
  have f303 := f282.other W298 (Or.inl (hne 0 6 (by decide) (by decide) (by decide)))
  have f304 := f283.other W298 (Or.inl (hne 0 6 (by decide) (by decide) (by decide)))
  have f305 := f284.other W298 (Or.inl (hne 0 6 (by decide) (by decide) (by decide)))
  have f306 := f285.other W298 (Or.inl (hne 0 6 (by decide) (by decide) (by decide)))
  have f307 := f286.other W298 (Or.inl (hne 0 6 (by decide) (by decide) (by decide)))
  have f308 := f287.other W298 (Or.inl (hne 0 6 (by decide) (by decide) (by decide)))
  have f309 := f288.other W298 (hne 1 6 (by decide) (by decide) (by decide))
  have f310 := f289.other W298 (hne 2 6 (by decide) (by decide) (by decide))
  have f311 := f290.other W298 (hne 3 6 (by decide) (by decide) (by decide))
  have f312 := f291.other W298 (hne 7 6 (by decide) (by decide) (by decide))
  have f313 := Nat.le_trans f292 (Keep.of_wr W298).1
  have f314 := f293.other W298 (hne 4 6 (by decide) (by decide) (by decide))
  have f315 := fa277.other W298 (hne 5 6 (by decide) (by decide) (by decide))
  have N298 := Fr.snoc X298 N277 (hn 6 (by decide))
  refine EndsQ.go st298 ?_
  show EndsQ _ _ _ _ _ _ _ (T298.setTop (mkF m 136 #[.val (.ref (oo 0)), .val (.int (2 : Int32)), .val (.int (0 : Int32)), .val (.int (1 : Int32))] []))
  refine EndsQ.go (b := T298.setTop (mkF m 138 #[.val (.ref (oo 0)), .val (.int (2 : Int32)), .val (.int (0 : Int32)), .val (.int (1 : Int32))] [(.int (0 : Int32)), (.ref (oo 0))])) (fun t k => ?_) ?_
  · show Steps p.tables e below (T298.setTop (mkF m 136 #[.val (.ref (oo 0)), .val (.int (2 : Int32)), .val (.int (0 : Int32)), .val (.int (1 : Int32))] [])) _
    refine XS.aloadN X298.here hx rfl (hb hby d6_136) rfl rfl ?_
    refine XS.iloadN X298.here hx rfl (hb hby d6_137) rfl ?_
    exact k
  obtain ⟨cq316, kq316, qa316, qb316, qc316⟩ := isOf hZ e298 f299
  obtain ⟨_, _, ⟨T316, L316, kk316, nn316⟩, -, X316, ⟨Lc316, hQ316, l316, y316, z316⟩, st316⟩ := X298.virtualBack hx (y := (⟨"com/example/physarum/physarum/Proposals", "count", "(I)I"⟩ : MethodName)) (z := (⟨"com/example/physarum/physarum/Proposals", "count", "(I)I"⟩ : MethodName)) hown (mvT hZ (hw _ (List.mem_of_getElem? (i := 50) rfl))) (mvT hZ (hw _ (List.mem_of_getElem? (i := 51) rfl))) (notFace_of_selects (args := #[]) (mvT hZ (hw _ (List.mem_of_getElem? (i := 53) rfl)))) (mvT hZ (hw _ (List.mem_of_getElem? (i := 53) rfl))) (mvT hZ (hw _ (List.mem_of_getElem? (i := 52) rfl))) (by decide) (backOf (W := 0) (rmCo0 l Z a0 hw [] oo kk c0 c1 c2 (0 : Int32) (1 : Int32) r2 d0 d1 d2 (0 : Int32) (1 : Int32) (2 : Int32) d0 d1 g2 (0 : Int32) (2 : Int32) t2 vx (2 : Int32) (2 : Int32) h298 n0 f313 hne hn ⟨f299, f300, f301, f302, f303, f304, f305, f306, f307, f308, f309, f310, f311, f314, f315, fa298, f312⟩) hZ (hw _ (List.mem_of_getElem? (i := 54) rfl)) (hw _ (List.mem_of_getElem? (i := 2) rfl)) (by decide) (by decide)) qa316 qc316 (g := (mkF m 138 #[.val (.ref (oo 0)), .val (.int (2 : Int32)), .val (.int (0 : Int32)), .val (.int (1 : Int32))] [(.int (0 : Int32)), (.ref (oo 0))])) rfl (by rw [hml]; rfl) (Steps.refl _) (argsL := [(.int (0 : Int32))]) (rest := []) (lenOf pd_1 rfl) rfl (by show 2 * 0 + _ ≤ _; exact Nat.le_of_eq rfl) (hb hby d6_138) (fun _ _ => ⟨rfl, e298, (by decide : 0 + 0 ≤ _), (by decide : 0 + 0 ≤ _)⟩)
  dsimp only [Pt.U, Pt.locs, Pt.cells, Pt.slots] at X316 l316 y316 z316 st316 hQ316
  subst l316 y316 z316
  obtain ⟨rfl, Nq316, eq316⟩ := hQ316
  have N316 := Fr.app N298 Nq316
  refine EndsQ.go (fun t k => st316.trans k) ?_
  show EndsQ _ _ _ _ _ _ _ (T316.setTop (mkF m 141 #[.val (.ref (oo 0)), .val (.int (2 : Int32)), .val (.int (0 : Int32)), .val (.int (1 : Int32))] [(.int ((1 : Int32) - (0 : Int32)))]))
  rw [(by decide : ((1 : Int32) - (0 : Int32)) = (1 : Int32))]
  show EndsQ _ _ _ _ _ _ _ (T316.setTop (mkF m 141 #[.val (.ref (oo 0)), .val (.int (2 : Int32)), .val (.int (0 : Int32)), .val (.int (1 : Int32))] [(.int (1 : Int32))]))
  refine EndsQ.go (b := T316.setTop (mkF m 123 #[.val (.ref (oo 0)), .val (.int (2 : Int32)), .val (.int (1 : Int32)), .val (.int (-1 : Int32))] [(.ref (oo 0)), (.int (1 : Int32))])) (fun t k => ?_) ?_
  · show Steps p.tables e below (T316.setTop (mkF m 141 #[.val (.ref (oo 0)), .val (.int (2 : Int32)), .val (.int (0 : Int32)), .val (.int (1 : Int32))] [(.int (1 : Int32))])) _
    refine XS.iconst X316.here hx rfl (hb hby d6_141) ?_
    refine XS.idiv X316.here hx rfl (hb hby d6_142) rfl (by decide) ?_
    show Steps p.tables e below (T316.setTop (mkF m 143 #[.val (.ref (oo 0)), .val (.int (2 : Int32)), .val (.int (0 : Int32)), .val (.int (1 : Int32))] [(.int ((1 : Int32) / (2 : Int32)))])) _
    rw [(by decide : ((1 : Int32) / (2 : Int32)) = (0 : Int32))]
    show Steps p.tables e below (T316.setTop (mkF m 143 #[.val (.ref (oo 0)), .val (.int (2 : Int32)), .val (.int (0 : Int32)), .val (.int (1 : Int32))] [(.int (0 : Int32))])) _
    refine XS.iconst X316.here hx rfl (hb hby d6_143) ?_
    refine XS.isub X316.here hx rfl (hb hby d6_144) rfl ?_
    show Steps p.tables e below (T316.setTop (mkF m 145 #[.val (.ref (oo 0)), .val (.int (2 : Int32)), .val (.int (0 : Int32)), .val (.int (1 : Int32))] [(.int ((0 : Int32) - (1 : Int32)))])) _
    rw [(by decide : ((0 : Int32) - (1 : Int32)) = (-1 : Int32))]
    show Steps p.tables e below (T316.setTop (mkF m 145 #[.val (.ref (oo 0)), .val (.int (2 : Int32)), .val (.int (0 : Int32)), .val (.int (1 : Int32))] [(.int (-1 : Int32))])) _
    refine XS.istoreN X316.here hx rfl (hb hby d6_145) rfl (l' := #[.val (.ref (oo 0)), .val (.int (2 : Int32)), .val (.int (0 : Int32)), .val (.int (-1 : Int32))]) rfl ?_
    refine XS.iloadN X316.here hx rfl (hb hby d6_146) rfl ?_
    show Steps p.tables e below (T316.setTop (mkF m 147 #[.val (.ref (oo 0)), .val (.int (2 : Int32)), .val (.int (0 : Int32)), .val (.int (-1 : Int32))] [(.int (-1 : Int32))])) _
    refine XS.ifYes X316.here hx rfl (pc0 := 147) (pc' := 172) rfl (hb hby d6_147) rfl ((if0 _ _).trans (tlt (by decide)).1) (by decide) (by decide) ?_
    show Steps p.tables e below (T316.setTop (mkF m 172 #[.val (.ref (oo 0)), .val (.int (2 : Int32)), .val (.int (0 : Int32)), .val (.int (-1 : Int32))] [])) _
    refine XS.iinc X316.here hx rfl (hb hby d6_172) rfl (l' := #[.val (.ref (oo 0)), .val (.int (2 : Int32)), .val (.int ((0 : Int32) + Int32.ofInt 1)), .val (.int (-1 : Int32))]) rfl ?_
    show Steps p.tables e below (T316.setTop (mkF m 175 #[.val (.ref (oo 0)), .val (.int (2 : Int32)), .val (.int ((0 : Int32) + Int32.ofInt 1)), .val (.int (-1 : Int32))] [])) _
    rw [(by decide : ((0 : Int32) + Int32.ofInt 1) = (1 : Int32))]
    show Steps p.tables e below (T316.setTop (mkF m 175 #[.val (.ref (oo 0)), .val (.int (2 : Int32)), .val (.int (1 : Int32)), .val (.int (-1 : Int32))] [])) _
    refine XS.goto X316.here hx rfl (pc0 := 175) (pc' := 121) rfl (hb hby d6_175) (by decide) (by decide) ?_
    refine XS.iloadN X316.here hx rfl (hb hby d6_121) rfl ?_
    refine XS.aloadN X316.here hx rfl (hb hby d6_122) rfl rfl ?_
    show Steps p.tables e below (T316.setTop (mkF m 123 #[.val (.ref (oo 0)), .val (.int (2 : Int32)), .val (.int (1 : Int32)), .val (.int (-1 : Int32))] [(.ref (oo 0)), (.int (1 : Int32))])) _
    exact k
  obtain ⟨T317, X317, e317, st317⟩ := getF X316 hx hZ hown (host := "") (Or.inl (hw _ (List.mem_of_getElem? (i := 37) rfl))) Via.refl eq316 f307 (g := (mkF m 123 #[.val (.ref (oo 0)), .val (.int (2 : Int32)), .val (.int (1 : Int32)), .val (.int (-1 : Int32))] [(.ref (oo 0)), (.int (1 : Int32))])) rfl rfl (hb hby d6_123)
  refine EndsQ.go st317 ?_
  show EndsQ _ _ _ _ _ _ _ (T317.setTop (mkF m 126 #[.val (.ref (oo 0)), .val (.int (2 : Int32)), .val (.int (1 : Int32)), .val (.int (-1 : Int32))] [(.int (2 : Int32)), (.int (1 : Int32))]))
  refine EndsQ.go (b := T317.setTop (mkF m 130 #[.val (.ref (oo 0)), .val (.int (2 : Int32)), .val (.int (1 : Int32)), .val (.int (-1 : Int32))] [(.ref (oo 0))])) (fun t k => ?_) ?_
  · show Steps p.tables e below (T317.setTop (mkF m 126 #[.val (.ref (oo 0)), .val (.int (2 : Int32)), .val (.int (1 : Int32)), .val (.int (-1 : Int32))] [(.int (2 : Int32)), (.int (1 : Int32))])) _
    refine XS.icmpNo X317.here hx rfl (hb hby d6_126) rfl (tlt (by decide)).2.1 ?_
    show Steps p.tables e below (T317.setTop (mkF m 129 #[.val (.ref (oo 0)), .val (.int (2 : Int32)), .val (.int (1 : Int32)), .val (.int (-1 : Int32))] [])) _
    refine XS.aloadN X317.here hx rfl (hb hby d6_129) rfl rfl ?_
    exact k
  obtain ⟨T318, X318, e318, st318⟩ := getF X317 hx hZ hown (host := "") (Or.inl (hw _ (List.mem_of_getElem? (i := 21) rfl))) Via.refl e317 f305 (g := (mkF m 130 #[.val (.ref (oo 0)), .val (.int (2 : Int32)), .val (.int (1 : Int32)), .val (.int (-1 : Int32))] [(.ref (oo 0))])) rfl rfl (hb hby d6_130)
  refine EndsQ.go st318 ?_
  show EndsQ _ _ _ _ _ _ _ (T318.setTop (mkF m 133 #[.val (.ref (oo 0)), .val (.int (2 : Int32)), .val (.int (1 : Int32)), .val (.int (-1 : Int32))] [(.ref (oo 6))]))
  refine EndsQ.go (b := T318.setTop (mkF m 135 #[.val (.ref (oo 0)), .val (.int (2 : Int32)), .val (.int (1 : Int32)), .val (.int (-1 : Int32))] [(.int (0 : Int32)), (.int (1 : Int32)), (.ref (oo 6))])) (fun t k => ?_) ?_
  · show Steps p.tables e below (T318.setTop (mkF m 133 #[.val (.ref (oo 0)), .val (.int (2 : Int32)), .val (.int (1 : Int32)), .val (.int (-1 : Int32))] [(.ref (oo 6))])) _
    refine XS.iloadN X318.here hx rfl (hb hby d6_133) rfl ?_
    refine XS.iconst X318.here hx rfl (hb hby d6_134) ?_
    exact k
  obtain ⟨cl319, Ar319, q319, S319, M319, H319, G319⟩ := id fa298
  have hin319 : ¬ ((1 : Int32) < 0 ∨ cl319.slots.size ≤ ((1 : Int32)).toNatClampNeg) := inb_of S319 ⟨by decide, by decide⟩
  obtain ⟨T319, h319, X319, e319, W319, st319⟩ := stI X318 hx hZ e318 Ar319 (j := (1 : Int32)) hin319 (g := (mkF m 135 #[.val (.ref (oo 0)), .val (.int (2 : Int32)), .val (.int (1 : Int32)), .val (.int (-1 : Int32))] [(.int (0 : Int32)), (.int (1 : Int32)), (.ref (oo 6))])) rfl rfl (hb hby d6_135)
  have fa319 : Arv Z h319 (oo 6) (kk 6) .int (16 : Int32) [(.int (0 : Int32)), (.int (0 : Int32)), (.int t2)] (.int (0 : Int32)) := Arv.set Ar319 q319 S319 M319 H319 G319 rfl W319 1 rfl (Nat.le_of_ble_eq_true rfl)
  have f320 := f299.wr W319
  have f321 := f300.other W319 (Or.inl (hne 0 6 (by decide) (by decide) (by decide)))
  have f322 := f301.other W319 (Or.inl (hne 0 6 (by decide) (by decide) (by decide)))
  have f323 := f302.other W319 (Or.inl (hne 0 6 (by decide) (by decide) (by decide)))
  have f324 := f303.other W319 (Or.inl (hne 0 6 (by decide) (by decide) (by decide)))
  have f325 := f304.other W319 (Or.inl (hne 0 6 (by decide) (by decide) (by decide)))
  have f326 := f305.other W319 (Or.inl (hne 0 6 (by decide) (by decide) (by decide)))
  have f327 := f306.other W319 (Or.inl (hne 0 6 (by decide) (by decide) (by decide)))
  have f328 := f307.other W319 (Or.inl (hne 0 6 (by decide) (by decide) (by decide)))
  have f329 := f308.other W319 (Or.inl (hne 0 6 (by decide) (by decide) (by decide)))
  have f330 := f309.other W319 (hne 1 6 (by decide) (by decide) (by decide))
  have f331 := f310.other W319 (hne 2 6 (by decide) (by decide) (by decide))
  have f332 := f311.other W319 (hne 3 6 (by decide) (by decide) (by decide))
  have f333 := f312.other W319 (hne 7 6 (by decide) (by decide) (by decide))
  have f334 := Nat.le_trans f313 (Keep.of_wr W319).1
  have f335 := f314.other W319 (hne 4 6 (by decide) (by decide) (by decide))
  have f336 := f315.other W319 (hne 5 6 (by decide) (by decide) (by decide))
  have N319 := Fr.snoc X319 N316 (hn 6 (by decide))
  refine EndsQ.go st319 ?_
  show EndsQ _ _ _ _ _ _ _ (T319.setTop (mkF m 136 #[.val (.ref (oo 0)), .val (.int (2 : Int32)), .val (.int (1 : Int32)), .val (.int (-1 : Int32))] []))
  refine EndsQ.go (b := T319.setTop (mkF m 138 #[.val (.ref (oo 0)), .val (.int (2 : Int32)), .val (.int (1 : Int32)), .val (.int (-1 : Int32))] [(.int (1 : Int32)), (.ref (oo 0))])) (fun t k => ?_) ?_
  · show Steps p.tables e below (T319.setTop (mkF m 136 #[.val (.ref (oo 0)), .val (.int (2 : Int32)), .val (.int (1 : Int32)), .val (.int (-1 : Int32))] [])) _
    refine XS.aloadN X319.here hx rfl (hb hby d6_136) rfl rfl ?_
    show Steps p.tables e below (T319.setTop (mkF m 137 #[.val (.ref (oo 0)), .val (.int (2 : Int32)), .val (.int (1 : Int32)), .val (.int (-1 : Int32))] [(.ref (oo 0))])) _
    refine XS.iloadN X319.here hx rfl (hb hby d6_137) rfl ?_
    exact k
  obtain ⟨cq337, kq337, qa337, qb337, qc337⟩ := isOf hZ e319 f320
  obtain ⟨_, _, ⟨T337, L337, kk337, nn337⟩, -, X337, ⟨Lc337, hQ337, l337, y337, z337⟩, st337⟩ := X319.virtualBack hx (y := (⟨"com/example/physarum/physarum/Proposals", "count", "(I)I"⟩ : MethodName)) (z := (⟨"com/example/physarum/physarum/Proposals", "count", "(I)I"⟩ : MethodName)) hown (mvT hZ (hw _ (List.mem_of_getElem? (i := 50) rfl))) (mvT hZ (hw _ (List.mem_of_getElem? (i := 51) rfl))) (notFace_of_selects (args := #[]) (mvT hZ (hw _ (List.mem_of_getElem? (i := 53) rfl)))) (mvT hZ (hw _ (List.mem_of_getElem? (i := 53) rfl))) (mvT hZ (hw _ (List.mem_of_getElem? (i := 52) rfl))) (by decide) (backOf (W := 0) (rmCo1 l Z a0 hw [] oo kk c0 c1 c2 (0 : Int32) (1 : Int32) r2 d0 d1 d2 (0 : Int32) (1 : Int32) (2 : Int32) d0 d1 g2 (0 : Int32) (0 : Int32) t2 vx (2 : Int32) (2 : Int32) h319 n0 f334 hne hn ⟨f320, f321, f322, f323, f324, f325, f326, f327, f328, f329, f330, f331, f332, f335, f336, fa319, f333⟩) hZ (hw _ (List.mem_of_getElem? (i := 54) rfl)) (hw _ (List.mem_of_getElem? (i := 2) rfl)) (by decide) (by decide)) qa337 qc337 (g := (mkF m 138 #[.val (.ref (oo 0)), .val (.int (2 : Int32)), .val (.int (1 : Int32)), .val (.int (-1 : Int32))] [(.int (1 : Int32)), (.ref (oo 0))])) rfl (by rw [hml]; rfl) (Steps.refl _) (argsL := [(.int (1 : Int32))]) (rest := []) (lenOf pd_1 rfl) rfl (by show 2 * 0 + _ ≤ _; exact Nat.le_of_eq rfl) (hb hby d6_138) (fun _ _ => ⟨rfl, e319, (by decide : 0 + 0 ≤ _), (by decide : 0 + 0 ≤ _)⟩)
  dsimp only [Pt.U, Pt.locs, Pt.cells, Pt.slots] at X337 l337 y337 z337 st337 hQ337
  subst l337 y337 z337
  obtain ⟨rfl, Nq337, eq337⟩ := hQ337
  have N337 := Fr.app N319 Nq337
  refine EndsQ.go (fun t k => st337.trans k) ?_
  show EndsQ _ _ _ _ _ _ _ (T337.setTop (mkF m 141 #[.val (.ref (oo 0)), .val (.int (2 : Int32)), .val (.int (1 : Int32)), .val (.int (-1 : Int32))] [(.int ((2 : Int32) - (1 : Int32)))]))
  rw [(by decide : ((2 : Int32) - (1 : Int32)) = (1 : Int32))]
  show EndsQ _ _ _ _ _ _ _ (T337.setTop (mkF m 141 #[.val (.ref (oo 0)), .val (.int (2 : Int32)), .val (.int (1 : Int32)), .val (.int (-1 : Int32))] [(.int (1 : Int32))]))
  refine EndsQ.go (b := T337.setTop (mkF m 123 #[.val (.ref (oo 0)), .val (.int (2 : Int32)), .val (.int (2 : Int32)), .val (.int (-1 : Int32))] [(.ref (oo 0)), (.int (2 : Int32))])) (fun t k => ?_) ?_
  · show Steps p.tables e below (T337.setTop (mkF m 141 #[.val (.ref (oo 0)), .val (.int (2 : Int32)), .val (.int (1 : Int32)), .val (.int (-1 : Int32))] [(.int (1 : Int32))])) _
    refine XS.iconst X337.here hx rfl (hb hby d6_141) ?_
    refine XS.idiv X337.here hx rfl (hb hby d6_142) rfl (by decide) ?_
    show Steps p.tables e below (T337.setTop (mkF m 143 #[.val (.ref (oo 0)), .val (.int (2 : Int32)), .val (.int (1 : Int32)), .val (.int (-1 : Int32))] [(.int ((1 : Int32) / (2 : Int32)))])) _
    rw [(by decide : ((1 : Int32) / (2 : Int32)) = (0 : Int32))]
    show Steps p.tables e below (T337.setTop (mkF m 143 #[.val (.ref (oo 0)), .val (.int (2 : Int32)), .val (.int (1 : Int32)), .val (.int (-1 : Int32))] [(.int (0 : Int32))])) _
    refine XS.iconst X337.here hx rfl (hb hby d6_143) ?_
    show Steps p.tables e below (T337.setTop (mkF m 144 #[.val (.ref (oo 0)), .val (.int (2 : Int32)), .val (.int (1 : Int32)), .val (.int (-1 : Int32))] [(.int (1 : Int32)), (.int (0 : Int32))])) _
    refine XS.isub X337.here hx rfl (hb hby d6_144) rfl ?_
    show Steps p.tables e below (T337.setTop (mkF m 145 #[.val (.ref (oo 0)), .val (.int (2 : Int32)), .val (.int (1 : Int32)), .val (.int (-1 : Int32))] [(.int ((0 : Int32) - (1 : Int32)))])) _
    rw [(by decide : ((0 : Int32) - (1 : Int32)) = (-1 : Int32))]
    show Steps p.tables e below (T337.setTop (mkF m 145 #[.val (.ref (oo 0)), .val (.int (2 : Int32)), .val (.int (1 : Int32)), .val (.int (-1 : Int32))] [(.int (-1 : Int32))])) _
    refine XS.istoreN X337.here hx rfl (hb hby d6_145) rfl (l' := #[.val (.ref (oo 0)), .val (.int (2 : Int32)), .val (.int (1 : Int32)), .val (.int (-1 : Int32))]) rfl ?_
    refine XS.iloadN X337.here hx rfl (hb hby d6_146) rfl ?_
    refine XS.ifYes X337.here hx rfl (pc0 := 147) (pc' := 172) rfl (hb hby d6_147) rfl ((if0 _ _).trans (tlt (by decide)).1) (by decide) (by decide) ?_
    show Steps p.tables e below (T337.setTop (mkF m 172 #[.val (.ref (oo 0)), .val (.int (2 : Int32)), .val (.int (1 : Int32)), .val (.int (-1 : Int32))] [])) _
    refine XS.iinc X337.here hx rfl (hb hby d6_172) rfl (l' := #[.val (.ref (oo 0)), .val (.int (2 : Int32)), .val (.int ((1 : Int32) + Int32.ofInt 1)), .val (.int (-1 : Int32))]) rfl ?_
    show Steps p.tables e below (T337.setTop (mkF m 175 #[.val (.ref (oo 0)), .val (.int (2 : Int32)), .val (.int ((1 : Int32) + Int32.ofInt 1)), .val (.int (-1 : Int32))] [])) _
    rw [(by decide : ((1 : Int32) + Int32.ofInt 1) = (2 : Int32))]
    show Steps p.tables e below (T337.setTop (mkF m 175 #[.val (.ref (oo 0)), .val (.int (2 : Int32)), .val (.int (2 : Int32)), .val (.int (-1 : Int32))] [])) _
    refine XS.goto X337.here hx rfl (pc0 := 175) (pc' := 121) rfl (hb hby d6_175) (by decide) (by decide) ?_
    refine XS.iloadN X337.here hx rfl (hb hby d6_121) rfl ?_
    refine XS.aloadN X337.here hx rfl (hb hby d6_122) rfl rfl ?_
    exact k
  obtain ⟨T338, X338, e338, st338⟩ := getF X337 hx hZ hown (host := "") (Or.inl (hw _ (List.mem_of_getElem? (i := 37) rfl))) Via.refl eq337 f328 (g := (mkF m 123 #[.val (.ref (oo 0)), .val (.int (2 : Int32)), .val (.int (2 : Int32)), .val (.int (-1 : Int32))] [(.ref (oo 0)), (.int (2 : Int32))])) rfl rfl (hb hby d6_123)
  refine EndsQ.go st338 ?_
  show EndsQ _ _ _ _ _ _ _ (T338.setTop (mkF m 126 #[.val (.ref (oo 0)), .val (.int (2 : Int32)), .val (.int (2 : Int32)), .val (.int (-1 : Int32))] [(.int (2 : Int32)), (.int (2 : Int32))]))
  refine EndsQ.go (b := T338.setTop (mkF m 178 #[.val (.ref (oo 0)), .val (.int (2 : Int32)), .val (.int (2 : Int32)), .val (.int (-1 : Int32))] [])) (fun t k => ?_) ?_
  · show Steps p.tables e below (T338.setTop (mkF m 126 #[.val (.ref (oo 0)), .val (.int (2 : Int32)), .val (.int (2 : Int32)), .val (.int (-1 : Int32))] [(.int (2 : Int32)), (.int (2 : Int32))])) _
    refine XS.icmpYes X338.here hx rfl (pc0 := 126) (pc' := 178) rfl (hb hby d6_126) rfl (flt (by decide)).2.1 (by decide) (by decide) ?_
    show Steps p.tables e below (T338.setTop (mkF m 178 #[.val (.ref (oo 0)), .val (.int (2 : Int32)), .val (.int (2 : Int32)), .val (.int (-1 : Int32))] [])) _
    exact k
  refine EndsQ.retV X338 hx Bd.notSynchronized Bd.returns (hb hby d6_178) (by decide) (by decide) ?_
  show QArr2 Z oo kk c0 c1 c2 r2 d0 d1 d2 s2 g0 g1 g2 t0 t1 t2 vx h0 n0 (none) T338.heap _
  rw [e338]
  exact ⟨rfl, N337, f334, ⟨f320, f321, f322, f323, f324, f325, f326, f327, f328, f329, f330, f331, f332, f335, f336, fa319, f333⟩⟩
theorem ef_Conf1 (m : MethodId) (x0 : Addr) (x1 : Int32) (x2 : Int32) : entryFrame m #[(.ref x0), (.int x1), (.int x2)] 7 = mkF m 0 #[.val (.ref x0), .val (.int x1), .val (.int x2), .unset, .unset, .unset, .unset] [] := by first | (simp [entryFrame, mkF, argsToLocals, Value.category]; done) | rfl
def QConf1 (Z : State) (oo : Nat → Addr) (kk : Nat → ClassId) (c0 : Int32) (c1 : Int32) (c2 : Int32) (r0 : Int32) (r1 : Int32) (r2 : Int32) (d0 : UInt64) (d1 : UInt64) (d2 : UInt64) (s2 : Int32) (g0 : UInt64) (g1 : UInt64) (g2 : UInt64) (t1 : Int32) (t2 : Int32) (vx : List Value) (cnt : Int32) (sz : Int32) (h0 : Heap) (n0 : Nat) (v : Option Value) (h : Heap) (L : List Loc) : Prop := v = some (.double g0) ∧ Fr n0 L ∧ n0 ≤ h.size ∧ own_St Z h oo kk cnt sz [(.int c0), (.int c1), (.int c2)] [(.int r0), (.int r1), (.int r2)] [(.double d0), (.double d1), (.double d2)] [(.int (0 : Int32)), (.int (2 : Int32)), (.int s2)] [(.double g1), (.double g0), (.double g2)] [(.int (1 : Int32)), (.int t1), (.int t2)] vx
set_option maxRecDepth 65536 in
set_option maxHeartbeats 40000000 in
theorem rmConf1 (l : Launch) (Z : State) (a0 : Array Value) (hw : ∀ d ∈ tables_1, d.before a0 Z = true) (ws : List Jvm.Cond) (oo : Nat → Addr) (kk : Nat → ClassId) (c0 : Int32) (c1 : Int32) (c2 : Int32) (r0 : Int32) (r1 : Int32) (r2 : Int32) (d0 : UInt64) (d1 : UInt64) (d2 : UInt64) (s2 : Int32) (g0 : UInt64) (g1 : UInt64) (g2 : UInt64) (t1 : Int32) (t2 : Int32) (vx : List Value) (cnt : Int32) (sz : Int32) (h0 : Heap) (n0 : Nat) (Z0 : n0 ≤ h0.size) (hne : own_ne oo) (hn : own_nn n0 oo) (HS : own_St Z h0 oo kk cnt sz [(.int c0), (.int c1), (.int c2)] [(.int r0), (.int r1), (.int r2)] [(.double d0), (.double d1), (.double d2)] [(.int (0 : Int32)), (.int (2 : Int32)), (.int s2)] [(.double g0), (.double g1), (.double g2)] [(.int (0 : Int32)), (.int t1), (.int t2)] vx) :
    MetFree l (⟨"com/example/physarum/physarum/Proposals", "confidence", "(II)D"⟩ : MethodName) (head1 (Jvm.Cond.code (⟨"com/example/physarum/physarum/Proposals", "confidence", "(II)D"⟩ : MethodName) prog_44_method_9_code 7 (some .double) :: ws) ({ frames := 1, cells := 0, slots := 0, locals := 40 } : Room)) (fun a U => a = #[(.ref (oo 0)), (.int (0 : Int32)), (.int (0 : Int32))] ∧ Z.Warmed39 U.vm ∧ U.heap = h0) (fun _ _ _ _ _ => True) (fun _ U o U' => ∃ v L, o = .returned v ∧ QConf1 Z oo kk c0 c1 c2 r0 r1 r2 d0 d1 d2 s2 g0 g1 g2 t1 t2 vx cnt sz h0 n0 v U'.heap L ∧ FrameEnd U o U' L ({ frames := 1, cells := 0, slots := 0, locals := 40 } : Room).cells ({ frames := 1, cells := 0, slots := 0, locals := 40 } : Room).slots) := by
  refine MetFree.of_bodySF (plainFor_of_name pn_11) hisR ?_
  intro p e s m args below meth c s₁ Bd hml0 hP hK
  obtain ⟨rfl, hZ, hh⟩ := hP
  have hx := Bd.exec
  have hby := Bd.bytes
  have hml : c.maxLocals = 7 := hml0
  have hown : s.vm.findClass "com/example/physarum/physarum/Proposals" = some m.cls := findClass_of_methodNamed Bd.named
  have hnm := (name_of_methodNamed Bd.named Bd.method).1
  have X0 : Stand p l e ({ frames := 1, cells := 0, slots := 0, locals := 40 } : Room) s m #[(.ref (oo 0)), (.int (0 : Int32)), (.int (0 : Int32))] below meth c s₁ [] 0 0 := Stand.of_body Bd
  have e0 : s₁.heap = h0 := by rw [← hh, Bd.state]; rfl
  have N0 := Fr.nil n0
  show EndsQ p.tables e below s (fun v h L => QConf1 Z oo kk c0 c1 c2 r0 r1 r2 d0 d1 d2 s2 g0 g1 g2 t1 t2 vx cnt sz h0 n0 v h L) ({ frames := 1, cells := 0, slots := 0, locals := 40 } : Room).cells ({ frames := 1, cells := 0, slots := 0, locals := 40 } : Room).slots _
  refine EndsQ.go (b := s₁.setTop (mkF m 0 #[.val (.ref (oo 0)), .val (.int (0 : Int32)), .val (.int (0 : Int32)), .unset, .unset, .unset, .unset] [])) (fun t k => castTop (ef_Conf1 m (oo 0) (0 : Int32) (0 : Int32)) k) ?_
  have HS0 := HS
  obtain ⟨SE, SF_candidates, SF_proposed, SF_confidences, SF_starts, SF_arranged, SF_taken, SF_indices, SF_cnt, SF_sz, SA_1, SA_2, SA_3, SA_4, SA_5, SA_6, SA_7⟩ := HS
  refine EndsQ.go (b := s₁.setTop (mkF m 1 #[.val (.ref (oo 0)), .val (.int (0 : Int32)), .val (.int (0 : Int32)), .unset, .unset, .unset, .unset] [(.ref (oo 0))])) (fun t k => ?_) ?_
  · show Steps p.tables e below (s₁.setTop (mkF m 0 #[.val (.ref (oo 0)), .val (.int (0 : Int32)), .val (.int (0 : Int32)), .unset, .unset, .unset, .unset] [])) _
    refine XS.aloadN X0.here hx rfl (hb hby d11_0) rfl rfl ?_
    exact k
  obtain ⟨T101, X101, e101, st101⟩ := getF X0 hx hZ hown (host := "") (Or.inl (hw _ (List.mem_of_getElem? (i := 17) rfl))) Via.refl e0 SF_starts (g := (mkF m 1 #[.val (.ref (oo 0)), .val (.int (0 : Int32)), .val (.int (0 : Int32)), .unset, .unset, .unset, .unset] [(.ref (oo 0))])) rfl rfl (hb hby d11_1)
  refine EndsQ.go st101 ?_
  show EndsQ _ _ _ _ _ _ _ (T101.setTop (mkF m 4 #[.val (.ref (oo 0)), .val (.int (0 : Int32)), .val (.int (0 : Int32)), .unset, .unset, .unset, .unset] [(.ref (oo 4))]))
  refine EndsQ.go (b := T101.setTop (mkF m 5 #[.val (.ref (oo 0)), .val (.int (0 : Int32)), .val (.int (0 : Int32)), .unset, .unset, .unset, .unset] [(.int (0 : Int32)), (.ref (oo 4))])) (fun t k => ?_) ?_
  · show Steps p.tables e below (T101.setTop (mkF m 4 #[.val (.ref (oo 0)), .val (.int (0 : Int32)), .val (.int (0 : Int32)), .unset, .unset, .unset, .unset] [(.ref (oo 4))])) _
    refine XS.iloadN X101.here hx rfl (hb hby d11_4) rfl ?_
    exact k
  obtain ⟨cl102, Ar102, q102, S102, M102, H102, G102⟩ := id SA_4
  have hin102 : ¬ ((0 : Int32) < 0 ∨ cl102.slots.size ≤ ((0 : Int32)).toNatClampNeg) := inb_of S102 ⟨by decide, by decide⟩
  have hat102 : cl102.slots[((0 : Int32)).toNatClampNeg]? = some (.int (0 : Int32)) := Has.at H102 hin102 rfl
  refine EndsQ.go (fun t k => X101.iaload hx (j := (0 : Int32)) (v := (.int (0 : Int32))) (by rw [e101]; exact Ar102.1) (State.isArrayOf_alike hZ.alike Ar102.2.1) Ar102.2.2 hin102 hat102 (g := (mkF m 5 #[.val (.ref (oo 0)), .val (.int (0 : Int32)), .val (.int (0 : Int32)), .unset, .unset, .unset, .unset] [(.int (0 : Int32)), (.ref (oo 4))])) rfl rfl (hb hby d11_5) _ k) ?_
  show EndsQ _ _ _ _ _ _ _ (T101.setTop (mkF m 6 #[.val (.ref (oo 0)), .val (.int (0 : Int32)), .val (.int (0 : Int32)), .unset, .unset, .unset, .unset] [(.int (0 : Int32))]))
  refine EndsQ.go (b := T101.setTop (mkF m 8 #[.val (.ref (oo 0)), .val (.int (0 : Int32)), .val (.int (0 : Int32)), .val (.int (0 : Int32)), .unset, .unset, .unset] [(.ref (oo 0))])) (fun t k => ?_) ?_
  · show Steps p.tables e below (T101.setTop (mkF m 6 #[.val (.ref (oo 0)), .val (.int (0 : Int32)), .val (.int (0 : Int32)), .unset, .unset, .unset, .unset] [(.int (0 : Int32))])) _
    refine XS.istoreN X101.here hx rfl (hb hby d11_6) rfl (l' := #[.val (.ref (oo 0)), .val (.int (0 : Int32)), .val (.int (0 : Int32)), .val (.int (0 : Int32)), .unset, .unset, .unset]) rfl ?_
    refine XS.aloadN X101.here hx rfl (hb hby d11_7) rfl rfl ?_
    show Steps p.tables e below (T101.setTop (mkF m 8 #[.val (.ref (oo 0)), .val (.int (0 : Int32)), .val (.int (0 : Int32)), .val (.int (0 : Int32)), .unset, .unset, .unset] [(.ref (oo 0))])) _
    exact k
  obtain ⟨T103, X103, e103, st103⟩ := getF X101 hx hZ hown (host := "") (Or.inl (hw _ (List.mem_of_getElem? (i := 21) rfl))) Via.refl e101 SF_taken (g := (mkF m 8 #[.val (.ref (oo 0)), .val (.int (0 : Int32)), .val (.int (0 : Int32)), .val (.int (0 : Int32)), .unset, .unset, .unset] [(.ref (oo 0))])) rfl rfl (hb hby d11_8)
  refine EndsQ.go st103 ?_
  show EndsQ _ _ _ _ _ _ _ (T103.setTop (mkF m 11 #[.val (.ref (oo 0)), .val (.int (0 : Int32)), .val (.int (0 : Int32)), .val (.int (0 : Int32)), .unset, .unset, .unset] [(.ref (oo 6))]))
  refine EndsQ.go (b := T103.setTop (mkF m 12 #[.val (.ref (oo 0)), .val (.int (0 : Int32)), .val (.int (0 : Int32)), .val (.int (0 : Int32)), .unset, .unset, .unset] [(.int (0 : Int32)), (.ref (oo 6))])) (fun t k => ?_) ?_
  · show Steps p.tables e below (T103.setTop (mkF m 11 #[.val (.ref (oo 0)), .val (.int (0 : Int32)), .val (.int (0 : Int32)), .val (.int (0 : Int32)), .unset, .unset, .unset] [(.ref (oo 6))])) _
    refine XS.iloadN X103.here hx rfl (hb hby d11_11) rfl ?_
    exact k
  obtain ⟨cl104, Ar104, q104, S104, M104, H104, G104⟩ := id SA_6
  have hin104 : ¬ ((0 : Int32) < 0 ∨ cl104.slots.size ≤ ((0 : Int32)).toNatClampNeg) := inb_of S104 ⟨by decide, by decide⟩
  have hat104 : cl104.slots[((0 : Int32)).toNatClampNeg]? = some (.int (0 : Int32)) := Has.at H104 hin104 rfl
  refine EndsQ.go (fun t k => X103.iaload hx (j := (0 : Int32)) (v := (.int (0 : Int32))) (by rw [e103]; exact Ar104.1) (State.isArrayOf_alike hZ.alike Ar104.2.1) Ar104.2.2 hin104 hat104 (g := (mkF m 12 #[.val (.ref (oo 0)), .val (.int (0 : Int32)), .val (.int (0 : Int32)), .val (.int (0 : Int32)), .unset, .unset, .unset] [(.int (0 : Int32)), (.ref (oo 6))])) rfl rfl (hb hby d11_12) _ k) ?_
  show EndsQ _ _ _ _ _ _ _ (T103.setTop (mkF m 13 #[.val (.ref (oo 0)), .val (.int (0 : Int32)), .val (.int (0 : Int32)), .val (.int (0 : Int32)), .unset, .unset, .unset] [(.int (0 : Int32))]))
  refine EndsQ.go (b := T103.setTop (mkF m 19 #[.val (.ref (oo 0)), .val (.int (0 : Int32)), .val (.int (0 : Int32)), .val (.int (0 : Int32)), .unset, .unset, .unset] [(.int (0 : Int32)), (.ref (oo 0))])) (fun t k => ?_) ?_
  · show Steps p.tables e below (T103.setTop (mkF m 13 #[.val (.ref (oo 0)), .val (.int (0 : Int32)), .val (.int (0 : Int32)), .val (.int (0 : Int32)), .unset, .unset, .unset] [(.int (0 : Int32))])) _
    refine XS.iloadN X103.here hx rfl (hb hby d11_13) rfl ?_
    refine XS.icmpNo X103.here hx rfl (hb hby d11_14) rfl (flt (by decide)).2.2.1 ?_
    show Steps p.tables e below (T103.setTop (mkF m 17 #[.val (.ref (oo 0)), .val (.int (0 : Int32)), .val (.int (0 : Int32)), .val (.int (0 : Int32)), .unset, .unset, .unset] [])) _
    refine XS.aloadN X103.here hx rfl (hb hby d11_17) rfl rfl ?_
    refine XS.iloadN X103.here hx rfl (hb hby d11_18) rfl ?_
    show Steps p.tables e below (T103.setTop (mkF m 19 #[.val (.ref (oo 0)), .val (.int (0 : Int32)), .val (.int (0 : Int32)), .val (.int (0 : Int32)), .unset, .unset, .unset] [(.int (0 : Int32)), (.ref (oo 0))])) _
    exact k
  obtain ⟨cq105, kq105, qa105, qb105, qc105⟩ := isOf hZ e103 SE
  obtain ⟨_, _, ⟨T105, L105, kk105, nn105⟩, -, X105, ⟨Lc105, hQ105, l105, y105, z105⟩, st105⟩ := X103.virtualBack hx (y := (⟨"com/example/physarum/physarum/Proposals", "count", "(I)I"⟩ : MethodName)) (z := (⟨"com/example/physarum/physarum/Proposals", "count", "(I)I"⟩ : MethodName)) hown (mvT hZ (hw _ (List.mem_of_getElem? (i := 50) rfl))) (mvT hZ (hw _ (List.mem_of_getElem? (i := 51) rfl))) (notFace_of_selects (args := #[]) (mvT hZ (hw _ (List.mem_of_getElem? (i := 53) rfl)))) (mvT hZ (hw _ (List.mem_of_getElem? (i := 53) rfl))) (mvT hZ (hw _ (List.mem_of_getElem? (i := 52) rfl))) (by decide) (backOf (W := 0) (rmCo0 l Z a0 hw [] oo kk c0 c1 c2 r0 r1 r2 d0 d1 d2 (0 : Int32) (2 : Int32) s2 g0 g1 g2 (0 : Int32) t1 t2 vx cnt sz h0 n0 Z0 hne hn ⟨SE, SF_candidates, SF_proposed, SF_confidences, SF_starts, SF_arranged, SF_taken, SF_indices, SF_cnt, SF_sz, SA_1, SA_2, SA_3, SA_4, SA_5, SA_6, SA_7⟩) hZ (hw _ (List.mem_of_getElem? (i := 54) rfl)) (hw _ (List.mem_of_getElem? (i := 2) rfl)) (by decide) (by decide)) qa105 qc105 (g := (mkF m 19 #[.val (.ref (oo 0)), .val (.int (0 : Int32)), .val (.int (0 : Int32)), .val (.int (0 : Int32)), .unset, .unset, .unset] [(.int (0 : Int32)), (.ref (oo 0))])) rfl (by rw [hml]; rfl) (Steps.refl _) (argsL := [(.int (0 : Int32))]) (rest := []) (lenOf pd_1 rfl) rfl (by show 2 * 0 + _ ≤ _; exact Nat.le_of_eq rfl) (hb hby d11_19) (fun _ _ => ⟨rfl, e103, (by decide : 0 + 0 ≤ _), (by decide : 0 + 0 ≤ _)⟩)
  dsimp only [Pt.U, Pt.locs, Pt.cells, Pt.slots] at X105 l105 y105 z105 st105 hQ105
  subst l105 y105 z105
  obtain ⟨rfl, Nq105, eq105⟩ := hQ105
  have N105 := Fr.app N0 Nq105
  refine EndsQ.go (fun t k => st105.trans k) ?_
  show EndsQ _ _ _ _ _ _ _ (T105.setTop (mkF m 22 #[.val (.ref (oo 0)), .val (.int (0 : Int32)), .val (.int (0 : Int32)), .val (.int (0 : Int32)), .unset, .unset, .unset] [(.int ((2 : Int32) - (0 : Int32)))]))
  rw [(by decide : ((2 : Int32) - (0 : Int32)) = (2 : Int32))]
  show EndsQ _ _ _ _ _ _ _ (T105.setTop (mkF m 22 #[.val (.ref (oo 0)), .val (.int (0 : Int32)), .val (.int (0 : Int32)), .val (.int (0 : Int32)), .unset, .unset, .unset] [(.int (2 : Int32))]))
  refine EndsQ.go (b := T105.setTop (mkF m 25 #[.val (.ref (oo 0)), .val (.int (0 : Int32)), .val (.int (0 : Int32)), .val (.int (0 : Int32)), .unset, .unset, .unset] [(.ref (oo 0)), (.int (1 : Int32))])) (fun t k => ?_) ?_
  · show Steps p.tables e below (T105.setTop (mkF m 22 #[.val (.ref (oo 0)), .val (.int (0 : Int32)), .val (.int (0 : Int32)), .val (.int (0 : Int32)), .unset, .unset, .unset] [(.int (2 : Int32))])) _
    refine XS.iconst X105.here hx rfl (hb hby d11_22) ?_
    refine XS.isub X105.here hx rfl (hb hby d11_23) rfl ?_
    show Steps p.tables e below (T105.setTop (mkF m 24 #[.val (.ref (oo 0)), .val (.int (0 : Int32)), .val (.int (0 : Int32)), .val (.int (0 : Int32)), .unset, .unset, .unset] [(.int ((2 : Int32) - (1 : Int32)))])) _
    rw [(by decide : ((2 : Int32) - (1 : Int32)) = (1 : Int32))]
    show Steps p.tables e below (T105.setTop (mkF m 24 #[.val (.ref (oo 0)), .val (.int (0 : Int32)), .val (.int (0 : Int32)), .val (.int (0 : Int32)), .unset, .unset, .unset] [(.int (1 : Int32))])) _
    refine XS.aloadN X105.here hx rfl (hb hby d11_24) rfl rfl ?_
    exact k
  obtain ⟨T106, X106, e106, st106⟩ := getF X105 hx hZ hown (host := "") (Or.inl (hw _ (List.mem_of_getElem? (i := 21) rfl))) Via.refl eq105 SF_taken (g := (mkF m 25 #[.val (.ref (oo 0)), .val (.int (0 : Int32)), .val (.int (0 : Int32)), .val (.int (0 : Int32)), .unset, .unset, .unset] [(.ref (oo 0)), (.int (1 : Int32))])) rfl rfl (hb hby d11_25)
  refine EndsQ.go st106 ?_
  show EndsQ _ _ _ _ _ _ _ (T106.setTop (mkF m 28 #[.val (.ref (oo 0)), .val (.int (0 : Int32)), .val (.int (0 : Int32)), .val (.int (0 : Int32)), .unset, .unset, .unset] [(.ref (oo 6)), (.int (1 : Int32))]))
  refine EndsQ.go (b := T106.setTop (mkF m 29 #[.val (.ref (oo 0)), .val (.int (0 : Int32)), .val (.int (0 : Int32)), .val (.int (0 : Int32)), .unset, .unset, .unset] [(.int (0 : Int32)), (.ref (oo 6)), (.int (1 : Int32))])) (fun t k => ?_) ?_
  · show Steps p.tables e below (T106.setTop (mkF m 28 #[.val (.ref (oo 0)), .val (.int (0 : Int32)), .val (.int (0 : Int32)), .val (.int (0 : Int32)), .unset, .unset, .unset] [(.ref (oo 6)), (.int (1 : Int32))])) _
    refine XS.iloadN X106.here hx rfl (hb hby d11_28) rfl ?_
    show Steps p.tables e below (T106.setTop (mkF m 29 #[.val (.ref (oo 0)), .val (.int (0 : Int32)), .val (.int (0 : Int32)), .val (.int (0 : Int32)), .unset, .unset, .unset] [(.int (0 : Int32)), (.ref (oo 6)), (.int (1 : Int32))])) _
    exact k
  obtain ⟨cl107, Ar107, q107, S107, M107, H107, G107⟩ := id SA_6
  have hin107 : ¬ ((0 : Int32) < 0 ∨ cl107.slots.size ≤ ((0 : Int32)).toNatClampNeg) := inb_of S107 ⟨by decide, by decide⟩
  have hat107 : cl107.slots[((0 : Int32)).toNatClampNeg]? = some (.int (0 : Int32)) := Has.at H107 hin107 rfl
  refine EndsQ.go (fun t k => X106.iaload hx (j := (0 : Int32)) (v := (.int (0 : Int32))) (by rw [e106]; exact Ar107.1) (State.isArrayOf_alike hZ.alike Ar107.2.1) Ar107.2.2 hin107 hat107 (g := (mkF m 29 #[.val (.ref (oo 0)), .val (.int (0 : Int32)), .val (.int (0 : Int32)), .val (.int (0 : Int32)), .unset, .unset, .unset] [(.int (0 : Int32)), (.ref (oo 6)), (.int (1 : Int32))])) rfl rfl (hb hby d11_29) _ k) ?_
  show EndsQ _ _ _ _ _ _ _ (T106.setTop (mkF m 30 #[.val (.ref (oo 0)), .val (.int (0 : Int32)), .val (.int (0 : Int32)), .val (.int (0 : Int32)), .unset, .unset, .unset] [(.int (0 : Int32)), (.int (1 : Int32))]))
  refine EndsQ.go (b := T106.setTop (mkF m 34 #[.val (.ref (oo 0)), .val (.int (0 : Int32)), .val (.int (0 : Int32)), .val (.int (0 : Int32)), .val (.int (1 : Int32)), .unset, .unset] [(.ref (oo 0))])) (fun t k => ?_) ?_
  · show Steps p.tables e below (T106.setTop (mkF m 30 #[.val (.ref (oo 0)), .val (.int (0 : Int32)), .val (.int (0 : Int32)), .val (.int (0 : Int32)), .unset, .unset, .unset] [(.int (0 : Int32)), (.int (1 : Int32))])) _
    refine XS.isub X106.here hx rfl (hb hby d11_30) rfl ?_
    show Steps p.tables e below (T106.setTop (mkF m 31 #[.val (.ref (oo 0)), .val (.int (0 : Int32)), .val (.int (0 : Int32)), .val (.int (0 : Int32)), .unset, .unset, .unset] [(.int ((1 : Int32) - (0 : Int32)))])) _
    rw [(by decide : ((1 : Int32) - (0 : Int32)) = (1 : Int32))]
    show Steps p.tables e below (T106.setTop (mkF m 31 #[.val (.ref (oo 0)), .val (.int (0 : Int32)), .val (.int (0 : Int32)), .val (.int (0 : Int32)), .unset, .unset, .unset] [(.int (1 : Int32))])) _
    refine XS.istore X106.here hx rfl (hb hby d11_31) rfl (l' := #[.val (.ref (oo 0)), .val (.int (0 : Int32)), .val (.int (0 : Int32)), .val (.int (0 : Int32)), .val (.int (1 : Int32)), .unset, .unset]) rfl ?_
    refine XS.aloadN X106.here hx rfl (hb hby d11_33) rfl rfl ?_
    exact k
  obtain ⟨T108, X108, e108, st108⟩ := getF X106 hx hZ hown (host := "") (Or.inl (hw _ (List.mem_of_getElem? (i := 19) rfl))) Via.refl e106 SF_arranged (g := (mkF m 34 #[.val (.ref (oo 0)), .val (.int (0 : Int32)), .val (.int (0 : Int32)), .val (.int (0 : Int32)), .val (.int (1 : Int32)), .unset, .unset] [(.ref (oo 0))])) rfl rfl (hb hby d11_34)
  refine EndsQ.go st108 ?_
  show EndsQ _ _ _ _ _ _ _ (T108.setTop (mkF m 37 #[.val (.ref (oo 0)), .val (.int (0 : Int32)), .val (.int (0 : Int32)), .val (.int (0 : Int32)), .val (.int (1 : Int32)), .unset, .unset] [(.ref (oo 5))]))
  refine EndsQ.go (b := T108.setTop (mkF m 38 #[.val (.ref (oo 0)), .val (.int (0 : Int32)), .val (.int (0 : Int32)), .val (.int (0 : Int32)), .val (.int (1 : Int32)), .unset, .unset] [(.int (0 : Int32)), (.ref (oo 5))])) (fun t k => ?_) ?_
  · show Steps p.tables e below (T108.setTop (mkF m 37 #[.val (.ref (oo 0)), .val (.int (0 : Int32)), .val (.int (0 : Int32)), .val (.int (0 : Int32)), .val (.int (1 : Int32)), .unset, .unset] [(.ref (oo 5))])) _
    refine XS.iloadN X108.here hx rfl (hb hby d11_37) rfl ?_
    show Steps p.tables e below (T108.setTop (mkF m 38 #[.val (.ref (oo 0)), .val (.int (0 : Int32)), .val (.int (0 : Int32)), .val (.int (0 : Int32)), .val (.int (1 : Int32)), .unset, .unset] [(.int (0 : Int32)), (.ref (oo 5))])) _
    exact k
  obtain ⟨cl109, Ar109, q109, S109, M109, H109, G109⟩ := id SA_5
  have hin109 : ¬ ((0 : Int32) < 0 ∨ cl109.slots.size ≤ ((0 : Int32)).toNatClampNeg) := inb_of S109 ⟨by decide, by decide⟩
  have hat109 : cl109.slots[((0 : Int32)).toNatClampNeg]? = some (.double g0) := Has.at H109 hin109 rfl
  refine EndsQ.go (fun t k => X108.daload hx (j := (0 : Int32)) (v := (.double g0)) (by rw [e108]; exact Ar109.1) (State.isArrayOf_alike hZ.alike Ar109.2.1) Ar109.2.2 hin109 hat109 (g := (mkF m 38 #[.val (.ref (oo 0)), .val (.int (0 : Int32)), .val (.int (0 : Int32)), .val (.int (0 : Int32)), .val (.int (1 : Int32)), .unset, .unset] [(.int (0 : Int32)), (.ref (oo 5))])) rfl rfl (hb hby d11_38) _ k) ?_
  show EndsQ _ _ _ _ _ _ _ (T108.setTop (mkF m 39 #[.val (.ref (oo 0)), .val (.int (0 : Int32)), .val (.int (0 : Int32)), .val (.int (0 : Int32)), .val (.int (1 : Int32)), .unset, .unset] [(.double g0)]))
  refine EndsQ.go (b := T108.setTop (mkF m 42 #[.val (.ref (oo 0)), .val (.int (0 : Int32)), .val (.int (0 : Int32)), .val (.int (0 : Int32)), .val (.int (1 : Int32)), .val (.double g0), .second] [(.ref (oo 0))])) (fun t k => ?_) ?_
  · show Steps p.tables e below (T108.setTop (mkF m 39 #[.val (.ref (oo 0)), .val (.int (0 : Int32)), .val (.int (0 : Int32)), .val (.int (0 : Int32)), .val (.int (1 : Int32)), .unset, .unset] [(.double g0)])) _
    refine XS.dstore X108.here hx rfl (hb hby d11_39) rfl (l' := #[.val (.ref (oo 0)), .val (.int (0 : Int32)), .val (.int (0 : Int32)), .val (.int (0 : Int32)), .val (.int (1 : Int32)), .val (.double g0), .second]) rfl ?_
    refine XS.aloadN X108.here hx rfl (hb hby d11_41) rfl rfl ?_
    exact k
  obtain ⟨T110, X110, e110, st110⟩ := getF X108 hx hZ hown (host := "") (Or.inl (hw _ (List.mem_of_getElem? (i := 19) rfl))) Via.refl e108 SF_arranged (g := (mkF m 42 #[.val (.ref (oo 0)), .val (.int (0 : Int32)), .val (.int (0 : Int32)), .val (.int (0 : Int32)), .val (.int (1 : Int32)), .val (.double g0), .second] [(.ref (oo 0))])) rfl rfl (hb hby d11_42)
  refine EndsQ.go st110 ?_
  show EndsQ _ _ _ _ _ _ _ (T110.setTop (mkF m 45 #[.val (.ref (oo 0)), .val (.int (0 : Int32)), .val (.int (0 : Int32)), .val (.int (0 : Int32)), .val (.int (1 : Int32)), .val (.double g0), .second] [(.ref (oo 5))]))
  refine EndsQ.go (b := T110.setTop (mkF m 47 #[.val (.ref (oo 0)), .val (.int (0 : Int32)), .val (.int (0 : Int32)), .val (.int (0 : Int32)), .val (.int (1 : Int32)), .val (.double g0), .second] [(.ref (oo 0)), (.int (0 : Int32)), (.ref (oo 5))])) (fun t k => ?_) ?_
  · show Steps p.tables e below (T110.setTop (mkF m 45 #[.val (.ref (oo 0)), .val (.int (0 : Int32)), .val (.int (0 : Int32)), .val (.int (0 : Int32)), .val (.int (1 : Int32)), .val (.double g0), .second] [(.ref (oo 5))])) _
    refine XS.iloadN X110.here hx rfl (hb hby d11_45) rfl ?_
    refine XS.aloadN X110.here hx rfl (hb hby d11_46) rfl rfl ?_
    show Steps p.tables e below (T110.setTop (mkF m 47 #[.val (.ref (oo 0)), .val (.int (0 : Int32)), .val (.int (0 : Int32)), .val (.int (0 : Int32)), .val (.int (1 : Int32)), .val (.double g0), .second] [(.ref (oo 0)), (.int (0 : Int32)), (.ref (oo 5))])) _
    exact k
  obtain ⟨T111, X111, e111, st111⟩ := getF X110 hx hZ hown (host := "") (Or.inl (hw _ (List.mem_of_getElem? (i := 19) rfl))) Via.refl e110 SF_arranged (g := (mkF m 47 #[.val (.ref (oo 0)), .val (.int (0 : Int32)), .val (.int (0 : Int32)), .val (.int (0 : Int32)), .val (.int (1 : Int32)), .val (.double g0), .second] [(.ref (oo 0)), (.int (0 : Int32)), (.ref (oo 5))])) rfl rfl (hb hby d11_47)
  refine EndsQ.go st111 ?_
  show EndsQ _ _ _ _ _ _ _ (T111.setTop (mkF m 50 #[.val (.ref (oo 0)), .val (.int (0 : Int32)), .val (.int (0 : Int32)), .val (.int (0 : Int32)), .val (.int (1 : Int32)), .val (.double g0), .second] [(.ref (oo 5)), (.int (0 : Int32)), (.ref (oo 5))]))
  refine EndsQ.go (b := T111.setTop (mkF m 54 #[.val (.ref (oo 0)), .val (.int (0 : Int32)), .val (.int (0 : Int32)), .val (.int (0 : Int32)), .val (.int (1 : Int32)), .val (.double g0), .second] [(.int (1 : Int32)), (.ref (oo 5)), (.int (0 : Int32)), (.ref (oo 5))])) (fun t k => ?_) ?_
  · show Steps p.tables e below (T111.setTop (mkF m 50 #[.val (.ref (oo 0)), .val (.int (0 : Int32)), .val (.int (0 : Int32)), .val (.int (0 : Int32)), .val (.int (1 : Int32)), .val (.double g0), .second] [(.ref (oo 5)), (.int (0 : Int32)), (.ref (oo 5))])) _
    refine XS.iloadN X111.here hx rfl (hb hby d11_50) rfl ?_
    refine XS.iload X111.here hx rfl (hb hby d11_51) rfl ?_
    refine XS.iadd X111.here hx rfl (hb hby d11_53) rfl ?_
    show Steps p.tables e below (T111.setTop (mkF m 54 #[.val (.ref (oo 0)), .val (.int (0 : Int32)), .val (.int (0 : Int32)), .val (.int (0 : Int32)), .val (.int (1 : Int32)), .val (.double g0), .second] [(.int ((0 : Int32) + (1 : Int32))), (.ref (oo 5)), (.int (0 : Int32)), (.ref (oo 5))])) _
    rw [(by decide : ((0 : Int32) + (1 : Int32)) = (1 : Int32))]
    show Steps p.tables e below (T111.setTop (mkF m 54 #[.val (.ref (oo 0)), .val (.int (0 : Int32)), .val (.int (0 : Int32)), .val (.int (0 : Int32)), .val (.int (1 : Int32)), .val (.double g0), .second] [(.int (1 : Int32)), (.ref (oo 5)), (.int (0 : Int32)), (.ref (oo 5))])) _
    exact k
  obtain ⟨cl112, Ar112, q112, S112, M112, H112, G112⟩ := id SA_5
  have hin112 : ¬ ((1 : Int32) < 0 ∨ cl112.slots.size ≤ ((1 : Int32)).toNatClampNeg) := inb_of S112 ⟨by decide, by decide⟩
  have hat112 : cl112.slots[((1 : Int32)).toNatClampNeg]? = some (.double g1) := Has.at H112 hin112 rfl
  refine EndsQ.go (fun t k => X111.daload hx (j := (1 : Int32)) (v := (.double g1)) (by rw [e111]; exact Ar112.1) (State.isArrayOf_alike hZ.alike Ar112.2.1) Ar112.2.2 hin112 hat112 (g := (mkF m 54 #[.val (.ref (oo 0)), .val (.int (0 : Int32)), .val (.int (0 : Int32)), .val (.int (0 : Int32)), .val (.int (1 : Int32)), .val (.double g0), .second] [(.int (1 : Int32)), (.ref (oo 5)), (.int (0 : Int32)), (.ref (oo 5))])) rfl rfl (hb hby d11_54) _ k) ?_
  show EndsQ _ _ _ _ _ _ _ (T111.setTop (mkF m 55 #[.val (.ref (oo 0)), .val (.int (0 : Int32)), .val (.int (0 : Int32)), .val (.int (0 : Int32)), .val (.int (1 : Int32)), .val (.double g0), .second] [(.double g1), (.int (0 : Int32)), (.ref (oo 5))]))
  obtain ⟨cl113, Ar113, q113, S113, M113, H113, G113⟩ := id SA_5
  have hin113 : ¬ ((0 : Int32) < 0 ∨ cl113.slots.size ≤ ((0 : Int32)).toNatClampNeg) := inb_of S113 ⟨by decide, by decide⟩
  obtain ⟨T113, h113, X113, e113, W113, st113⟩ := stD X111 hx hZ e111 Ar113 (j := (0 : Int32)) hin113 (g := (mkF m 55 #[.val (.ref (oo 0)), .val (.int (0 : Int32)), .val (.int (0 : Int32)), .val (.int (0 : Int32)), .val (.int (1 : Int32)), .val (.double g0), .second] [(.double g1), (.int (0 : Int32)), (.ref (oo 5))])) rfl rfl (hb hby d11_55)
  have fa113 : Arv Z h113 (oo 5) (kk 5) .double (64 : Int32) [(.double g1), (.double g1), (.double g2)] (.double (0 : UInt64)) := Arv.set Ar113 q113 S113 M113 H113 G113 rfl W113 0 rfl (Nat.le_of_ble_eq_true rfl)
  have f114 := SE.wr W113
  have f115 := SF_candidates.other W113 (Or.inl (hne 0 5 (by decide) (by decide) (by decide)))
  have f116 := SF_proposed.other W113 (Or.inl (hne 0 5 (by decide) (by decide) (by decide)))
  have f117 := SF_confidences.other W113 (Or.inl (hne 0 5 (by decide) (by decide) (by decide)))
  have f118 := SF_starts.other W113 (Or.inl (hne 0 5 (by decide) (by decide) (by decide)))
  have f119 := SF_arranged.other W113 (Or.inl (hne 0 5 (by decide) (by decide) (by decide)))
  have f120 := SF_taken.other W113 (Or.inl (hne 0 5 (by decide) (by decide) (by decide)))
  have f121 := SF_indices.other W113 (Or.inl (hne 0 5 (by decide) (by decide) (by decide)))
  have f122 := SF_cnt.other W113 (Or.inl (hne 0 5 (by decide) (by decide) (by decide)))
  have f123 := SF_sz.other W113 (Or.inl (hne 0 5 (by decide) (by decide) (by decide)))
  have f124 := SA_1.other W113 (hne 1 5 (by decide) (by decide) (by decide))
  have f125 := SA_2.other W113 (hne 2 5 (by decide) (by decide) (by decide))
  have f126 := SA_3.other W113 (hne 3 5 (by decide) (by decide) (by decide))
  have f127 := SA_4.other W113 (hne 4 5 (by decide) (by decide) (by decide))
  have f128 := SA_6.other W113 (hne 6 5 (by decide) (by decide) (by decide))
  have f129 := SA_7.other W113 (hne 7 5 (by decide) (by decide) (by decide))
  have f130 := Nat.le_trans Z0 (Keep.of_wr W113).1
  have N113 := Fr.snoc X113 N105 (hn 5 (by decide))
  refine EndsQ.go st113 ?_
  show EndsQ _ _ _ _ _ _ _ (T113.setTop (mkF m 56 #[.val (.ref (oo 0)), .val (.int (0 : Int32)), .val (.int (0 : Int32)), .val (.int (0 : Int32)), .val (.int (1 : Int32)), .val (.double g0), .second] []))
  refine EndsQ.go (b := T113.setTop (mkF m 57 #[.val (.ref (oo 0)), .val (.int (0 : Int32)), .val (.int (0 : Int32)), .val (.int (0 : Int32)), .val (.int (1 : Int32)), .val (.double g0), .second] [(.ref (oo 0))])) (fun t k => ?_) ?_
  · show Steps p.tables e below (T113.setTop (mkF m 56 #[.val (.ref (oo 0)), .val (.int (0 : Int32)), .val (.int (0 : Int32)), .val (.int (0 : Int32)), .val (.int (1 : Int32)), .val (.double g0), .second] [])) _
    refine XS.aloadN X113.here hx rfl (hb hby d11_56) rfl rfl ?_
    show Steps p.tables e below (T113.setTop (mkF m 57 #[.val (.ref (oo 0)), .val (.int (0 : Int32)), .val (.int (0 : Int32)), .val (.int (0 : Int32)), .val (.int (1 : Int32)), .val (.double g0), .second] [(.ref (oo 0))])) _
    exact k
  obtain ⟨T131, X131, e131, st131⟩ := getF X113 hx hZ hown (host := "") (Or.inl (hw _ (List.mem_of_getElem? (i := 19) rfl))) Via.refl e113 f119 (g := (mkF m 57 #[.val (.ref (oo 0)), .val (.int (0 : Int32)), .val (.int (0 : Int32)), .val (.int (0 : Int32)), .val (.int (1 : Int32)), .val (.double g0), .second] [(.ref (oo 0))])) rfl rfl (hb hby d11_57)
  refine EndsQ.go st131 ?_
  show EndsQ _ _ _ _ _ _ _ (T131.setTop (mkF m 60 #[.val (.ref (oo 0)), .val (.int (0 : Int32)), .val (.int (0 : Int32)), .val (.int (0 : Int32)), .val (.int (1 : Int32)), .val (.double g0), .second] [(.ref (oo 5))]))
  refine EndsQ.go (b := T131.setTop (mkF m 66 #[.val (.ref (oo 0)), .val (.int (0 : Int32)), .val (.int (0 : Int32)), .val (.int (0 : Int32)), .val (.int (1 : Int32)), .val (.double g0), .second] [(.double g0), (.int (1 : Int32)), (.ref (oo 5))])) (fun t k => ?_) ?_
  · show Steps p.tables e below (T131.setTop (mkF m 60 #[.val (.ref (oo 0)), .val (.int (0 : Int32)), .val (.int (0 : Int32)), .val (.int (0 : Int32)), .val (.int (1 : Int32)), .val (.double g0), .second] [(.ref (oo 5))])) _
    refine XS.iloadN X131.here hx rfl (hb hby d11_60) rfl ?_
    refine XS.iload X131.here hx rfl (hb hby d11_61) rfl ?_
    refine XS.iadd X131.here hx rfl (hb hby d11_63) rfl ?_
    show Steps p.tables e below (T131.setTop (mkF m 64 #[.val (.ref (oo 0)), .val (.int (0 : Int32)), .val (.int (0 : Int32)), .val (.int (0 : Int32)), .val (.int (1 : Int32)), .val (.double g0), .second] [(.int ((0 : Int32) + (1 : Int32))), (.ref (oo 5))])) _
    rw [(by decide : ((0 : Int32) + (1 : Int32)) = (1 : Int32))]
    show Steps p.tables e below (T131.setTop (mkF m 64 #[.val (.ref (oo 0)), .val (.int (0 : Int32)), .val (.int (0 : Int32)), .val (.int (0 : Int32)), .val (.int (1 : Int32)), .val (.double g0), .second] [(.int (1 : Int32)), (.ref (oo 5))])) _
    refine XS.dload X131.here hx rfl (hb hby d11_64) rfl ?_
    show Steps p.tables e below (T131.setTop (mkF m 66 #[.val (.ref (oo 0)), .val (.int (0 : Int32)), .val (.int (0 : Int32)), .val (.int (0 : Int32)), .val (.int (1 : Int32)), .val (.double g0), .second] [(.double g0), (.int (1 : Int32)), (.ref (oo 5))])) _
    exact k
  obtain ⟨cl132, Ar132, q132, S132, M132, H132, G132⟩ := id fa113
  have hin132 : ¬ ((1 : Int32) < 0 ∨ cl132.slots.size ≤ ((1 : Int32)).toNatClampNeg) := inb_of S132 ⟨by decide, by decide⟩
  obtain ⟨T132, h132, X132, e132, W132, st132⟩ := stD X131 hx hZ e131 Ar132 (j := (1 : Int32)) hin132 (g := (mkF m 66 #[.val (.ref (oo 0)), .val (.int (0 : Int32)), .val (.int (0 : Int32)), .val (.int (0 : Int32)), .val (.int (1 : Int32)), .val (.double g0), .second] [(.double g0), (.int (1 : Int32)), (.ref (oo 5))])) rfl rfl (hb hby d11_66)
  have fa132 : Arv Z h132 (oo 5) (kk 5) .double (64 : Int32) [(.double g1), (.double g0), (.double g2)] (.double (0 : UInt64)) := Arv.set Ar132 q132 S132 M132 H132 G132 rfl W132 1 rfl (Nat.le_of_ble_eq_true rfl)
  have f133 := f114.wr W132
  have f134 := f115.other W132 (Or.inl (hne 0 5 (by decide) (by decide) (by decide)))
  have f135 := f116.other W132 (Or.inl (hne 0 5 (by decide) (by decide) (by decide)))
  have f136 := f117.other W132 (Or.inl (hne 0 5 (by decide) (by decide) (by decide)))
  have f137 := f118.other W132 (Or.inl (hne 0 5 (by decide) (by decide) (by decide)))
  have f138 := f119.other W132 (Or.inl (hne 0 5 (by decide) (by decide) (by decide)))
  have f139 := f120.other W132 (Or.inl (hne 0 5 (by decide) (by decide) (by decide)))
  have f140 := f121.other W132 (Or.inl (hne 0 5 (by decide) (by decide) (by decide)))
  have f141 := f122.other W132 (Or.inl (hne 0 5 (by decide) (by decide) (by decide)))
  have f142 := f123.other W132 (Or.inl (hne 0 5 (by decide) (by decide) (by decide)))
  have f143 := f124.other W132 (hne 1 5 (by decide) (by decide) (by decide))
  have f144 := f125.other W132 (hne 2 5 (by decide) (by decide) (by decide))
  have f145 := f126.other W132 (hne 3 5 (by decide) (by decide) (by decide))
  have f146 := f127.other W132 (hne 4 5 (by decide) (by decide) (by decide))
  have f147 := f128.other W132 (hne 6 5 (by decide) (by decide) (by decide))
  have f148 := f129.other W132 (hne 7 5 (by decide) (by decide) (by decide))
  have f149 := Nat.le_trans f130 (Keep.of_wr W132).1
  have N132 := Fr.snoc X132 N113 (hn 5 (by decide))
  refine EndsQ.go st132 ?_
  show EndsQ _ _ _ _ _ _ _ (T132.setTop (mkF m 67 #[.val (.ref (oo 0)), .val (.int (0 : Int32)), .val (.int (0 : Int32)), .val (.int (0 : Int32)), .val (.int (1 : Int32)), .val (.double g0), .second] []))
  refine EndsQ.go (b := T132.setTop (mkF m 72 #[.val (.ref (oo 0)), .val (.int (0 : Int32)), .val (.int (0 : Int32)), .val (.int (0 : Int32)), .val (.int (1 : Int32)), .val (.double g0), .second] [(.int (1 : Int32)), (.int (0 : Int32)), (.int (0 : Int32)), (.ref (oo 0))])) (fun t k => ?_) ?_
  · show Steps p.tables e below (T132.setTop (mkF m 67 #[.val (.ref (oo 0)), .val (.int (0 : Int32)), .val (.int (0 : Int32)), .val (.int (0 : Int32)), .val (.int (1 : Int32)), .val (.double g0), .second] [])) _
    refine XS.aloadN X132.here hx rfl (hb hby d11_67) rfl rfl ?_
    refine XS.iloadN X132.here hx rfl (hb hby d11_68) rfl ?_
    refine XS.iconst X132.here hx rfl (hb hby d11_69) ?_
    refine XS.iload X132.here hx rfl (hb hby d11_70) rfl ?_
    show Steps p.tables e below (T132.setTop (mkF m 72 #[.val (.ref (oo 0)), .val (.int (0 : Int32)), .val (.int (0 : Int32)), .val (.int (0 : Int32)), .val (.int (1 : Int32)), .val (.double g0), .second] [(.int (1 : Int32)), (.int (0 : Int32)), (.int (0 : Int32)), (.ref (oo 0))])) _
    exact k
  obtain ⟨cq150, kq150, qa150, qb150, qc150⟩ := isOf hZ e132 f133
  obtain ⟨cp150, qp150, qp150'⟩ := Exa.cell f133
  obtain ⟨ic150, ik150, i1150, i2150, -, i4150, -⟩ := Cond.instantiable_spec (mvT (args := #[]) hZ (hw _ (List.mem_of_getElem? (i := 1) rfl)))
  have hpv150 := Cond.privateMethod_at (mvP hZ (hw _ (List.mem_of_getElem? (i := 78) rfl)) (args := #[]))
  obtain ⟨_, _, ⟨T150, L150, kk150, nn150⟩, -, X150, ⟨Lc150, hQ150, l150, y150, z150⟩, st150⟩ := X132.privateBack hx (y := (⟨"com/example/physarum/physarum/Proposals", "siftDown", "(III)V"⟩ : MethodName)) hown (mvT hZ (hw _ (List.mem_of_getElem? (i := 76) rfl))) (mvT hZ (hw _ (List.mem_of_getElem? (i := 77) rfl))) (Jvm.Stand.selects_self_of_private i1150 i2150 (Bool.or_eq_false_iff.mp i4150).1 hpv150 (mvT hZ (hw _ (List.mem_of_getElem? (i := 77) rfl))) (by decide)) hpv150 (mvT hZ (hw _ (List.mem_of_getElem? (i := 79) rfl))) (by decide) (backOf (W := 0) (rmSift1 l Z a0 hw [] oo kk c0 c1 c2 r0 r1 r2 d0 d1 d2 (0 : Int32) (2 : Int32) s2 g1 g0 g2 (0 : Int32) t1 t2 vx cnt sz h132 n0 f149 hne hn ⟨f133, f134, f135, f136, f137, f138, f139, f140, f141, f142, f143, f144, f145, f146, fa132, f147, f148⟩ ) hZ (hw _ (List.mem_of_getElem? (i := 79) rfl)) (hw _ (List.mem_of_getElem? (i := 2) rfl)) (by decide) (by decide)) (g := (mkF m 72 #[.val (.ref (oo 0)), .val (.int (0 : Int32)), .val (.int (0 : Int32)), .val (.int (0 : Int32)), .val (.int (1 : Int32)), .val (.double g0), .second] [(.int (1 : Int32)), (.int (0 : Int32)), (.int (0 : Int32)), (.ref (oo 0))])) rfl (by rw [hml]; rfl) (Steps.refl _) (a := (oo 0)) (by rw [e132]; exact qp150) qp150' (argsL := [(.int (0 : Int32)), (.int (0 : Int32)), (.int (1 : Int32))]) (rest := []) (lenOf pd_2 rfl) rfl (by show 2 * 0 + _ ≤ _; exact Nat.le_of_eq rfl) (hb hby d11_72) (fun _ _ => ⟨rfl, e132, (by decide : 0 + 0 ≤ _), (by decide : 0 + 0 ≤ _)⟩)
  dsimp only [Pt.U, Pt.locs, Pt.cells, Pt.slots] at X150 l150 y150 z150 st150 hQ150
  subst l150 y150 z150
  obtain ⟨rfl, Nq150, hz150, HS150⟩ := hQ150
  have N150 := Fr.app N132 Nq150
  obtain ⟨SE_150, SF_candidates_150, SF_proposed_150, SF_confidences_150, SF_starts_150, SF_arranged_150, SF_taken_150, SF_indices_150, SF_cnt_150, SF_sz_150, SA_1_150, SA_2_150, SA_3_150, SA_4_150, SA_5_150, SA_6_150, SA_7_150⟩ := HS150
  refine EndsQ.go (fun t k => st150.trans k) ?_
  show EndsQ _ _ _ _ _ _ _ (T150.setTop (mkF m 75 #[.val (.ref (oo 0)), .val (.int (0 : Int32)), .val (.int (0 : Int32)), .val (.int (0 : Int32)), .val (.int (1 : Int32)), .val (.double g0), .second] []))
  refine EndsQ.go (b := T150.setTop (mkF m 76 #[.val (.ref (oo 0)), .val (.int (0 : Int32)), .val (.int (0 : Int32)), .val (.int (0 : Int32)), .val (.int (1 : Int32)), .val (.double g0), .second] [(.ref (oo 0))])) (fun t k => ?_) ?_
  · show Steps p.tables e below (T150.setTop (mkF m 75 #[.val (.ref (oo 0)), .val (.int (0 : Int32)), .val (.int (0 : Int32)), .val (.int (0 : Int32)), .val (.int (1 : Int32)), .val (.double g0), .second] [])) _
    refine XS.aloadN X150.here hx rfl (hb hby d11_75) rfl rfl ?_
    exact k
  obtain ⟨T151, X151, e151, st151⟩ := getF X150 hx hZ hown (host := "") (Or.inl (hw _ (List.mem_of_getElem? (i := 21) rfl))) Via.refl rfl SF_taken_150 (g := (mkF m 76 #[.val (.ref (oo 0)), .val (.int (0 : Int32)), .val (.int (0 : Int32)), .val (.int (0 : Int32)), .val (.int (1 : Int32)), .val (.double g0), .second] [(.ref (oo 0))])) rfl rfl (hb hby d11_76)
  refine EndsQ.go st151 ?_
  show EndsQ _ _ _ _ _ _ _ (T151.setTop (mkF m 79 #[.val (.ref (oo 0)), .val (.int (0 : Int32)), .val (.int (0 : Int32)), .val (.int (0 : Int32)), .val (.int (1 : Int32)), .val (.double g0), .second] [(.ref (oo 6))]))
  refine EndsQ.go (b := T151.setTop (mkF m 81 #[.val (.ref (oo 0)), .val (.int (0 : Int32)), .val (.int (0 : Int32)), .val (.int (0 : Int32)), .val (.int (1 : Int32)), .val (.double g0), .second] [(.int (0 : Int32)), (.ref (oo 6)), (.int (0 : Int32)), (.ref (oo 6))])) (fun t k => ?_) ?_
  · show Steps p.tables e below (T151.setTop (mkF m 79 #[.val (.ref (oo 0)), .val (.int (0 : Int32)), .val (.int (0 : Int32)), .val (.int (0 : Int32)), .val (.int (1 : Int32)), .val (.double g0), .second] [(.ref (oo 6))])) _
    refine XS.iloadN X151.here hx rfl (hb hby d11_79) rfl ?_
    refine Jvm.Free.XT.dup2 X151.here hx rfl (hb hby d11_80) rfl rfl rfl ?_
    exact k
  obtain ⟨cl152, Ar152, q152, S152, M152, H152, G152⟩ := id SA_6_150
  have hin152 : ¬ ((0 : Int32) < 0 ∨ cl152.slots.size ≤ ((0 : Int32)).toNatClampNeg) := inb_of S152 ⟨by decide, by decide⟩
  have hat152 : cl152.slots[((0 : Int32)).toNatClampNeg]? = some (.int (0 : Int32)) := Has.at H152 hin152 rfl
  refine EndsQ.go (fun t k => X151.iaload hx (j := (0 : Int32)) (v := (.int (0 : Int32))) (by rw [e151]; exact Ar152.1) (State.isArrayOf_alike hZ.alike Ar152.2.1) Ar152.2.2 hin152 hat152 (g := (mkF m 81 #[.val (.ref (oo 0)), .val (.int (0 : Int32)), .val (.int (0 : Int32)), .val (.int (0 : Int32)), .val (.int (1 : Int32)), .val (.double g0), .second] [(.int (0 : Int32)), (.ref (oo 6)), (.int (0 : Int32)), (.ref (oo 6))])) rfl rfl (hb hby d11_81) _ k) ?_
  show EndsQ _ _ _ _ _ _ _ (T151.setTop (mkF m 82 #[.val (.ref (oo 0)), .val (.int (0 : Int32)), .val (.int (0 : Int32)), .val (.int (0 : Int32)), .val (.int (1 : Int32)), .val (.double g0), .second] [(.int (0 : Int32)), (.int (0 : Int32)), (.ref (oo 6))]))
  refine EndsQ.go (b := T151.setTop (mkF m 84 #[.val (.ref (oo 0)), .val (.int (0 : Int32)), .val (.int (0 : Int32)), .val (.int (0 : Int32)), .val (.int (1 : Int32)), .val (.double g0), .second] [(.int (1 : Int32)), (.int (0 : Int32)), (.ref (oo 6))])) (fun t k => ?_) ?_
  · show Steps p.tables e below (T151.setTop (mkF m 82 #[.val (.ref (oo 0)), .val (.int (0 : Int32)), .val (.int (0 : Int32)), .val (.int (0 : Int32)), .val (.int (1 : Int32)), .val (.double g0), .second] [(.int (0 : Int32)), (.int (0 : Int32)), (.ref (oo 6))])) _
    refine XS.iconst X151.here hx rfl (hb hby d11_82) ?_
    show Steps p.tables e below (T151.setTop (mkF m 83 #[.val (.ref (oo 0)), .val (.int (0 : Int32)), .val (.int (0 : Int32)), .val (.int (0 : Int32)), .val (.int (1 : Int32)), .val (.double g0), .second] [(.int (1 : Int32)), (.int (0 : Int32)), (.int (0 : Int32)), (.ref (oo 6))])) _
    refine XS.iadd X151.here hx rfl (hb hby d11_83) rfl ?_
    show Steps p.tables e below (T151.setTop (mkF m 84 #[.val (.ref (oo 0)), .val (.int (0 : Int32)), .val (.int (0 : Int32)), .val (.int (0 : Int32)), .val (.int (1 : Int32)), .val (.double g0), .second] [(.int ((0 : Int32) + (1 : Int32))), (.int (0 : Int32)), (.ref (oo 6))])) _
    rw [(by decide : ((0 : Int32) + (1 : Int32)) = (1 : Int32))]
    show Steps p.tables e below (T151.setTop (mkF m 84 #[.val (.ref (oo 0)), .val (.int (0 : Int32)), .val (.int (0 : Int32)), .val (.int (0 : Int32)), .val (.int (1 : Int32)), .val (.double g0), .second] [(.int (1 : Int32)), (.int (0 : Int32)), (.ref (oo 6))])) _
    exact k
  obtain ⟨cl153, Ar153, q153, S153, M153, H153, G153⟩ := id SA_6_150
  have hin153 : ¬ ((0 : Int32) < 0 ∨ cl153.slots.size ≤ ((0 : Int32)).toNatClampNeg) := inb_of S153 ⟨by decide, by decide⟩
  obtain ⟨T153, h153, X153, e153, W153, st153⟩ := stI X151 hx hZ e151 Ar153 (j := (0 : Int32)) hin153 (g := (mkF m 84 #[.val (.ref (oo 0)), .val (.int (0 : Int32)), .val (.int (0 : Int32)), .val (.int (0 : Int32)), .val (.int (1 : Int32)), .val (.double g0), .second] [(.int (1 : Int32)), (.int (0 : Int32)), (.ref (oo 6))])) rfl rfl (hb hby d11_84)
  have fa153 : Arv Z h153 (oo 6) (kk 6) .int (16 : Int32) [(.int (1 : Int32)), (.int t1), (.int t2)] (.int (0 : Int32)) := Arv.set Ar153 q153 S153 M153 H153 G153 rfl W153 0 rfl (Nat.le_of_ble_eq_true rfl)
  have f154 := Nat.le_trans hz150 (Keep.of_wr W153).1
  have f155 := SE_150.wr W153
  have f156 := SF_candidates_150.other W153 (Or.inl (hne 0 6 (by decide) (by decide) (by decide)))
  have f157 := SF_proposed_150.other W153 (Or.inl (hne 0 6 (by decide) (by decide) (by decide)))
  have f158 := SF_confidences_150.other W153 (Or.inl (hne 0 6 (by decide) (by decide) (by decide)))
  have f159 := SF_starts_150.other W153 (Or.inl (hne 0 6 (by decide) (by decide) (by decide)))
  have f160 := SF_arranged_150.other W153 (Or.inl (hne 0 6 (by decide) (by decide) (by decide)))
  have f161 := SF_taken_150.other W153 (Or.inl (hne 0 6 (by decide) (by decide) (by decide)))
  have f162 := SF_indices_150.other W153 (Or.inl (hne 0 6 (by decide) (by decide) (by decide)))
  have f163 := SF_cnt_150.other W153 (Or.inl (hne 0 6 (by decide) (by decide) (by decide)))
  have f164 := SF_sz_150.other W153 (Or.inl (hne 0 6 (by decide) (by decide) (by decide)))
  have f165 := SA_1_150.other W153 (hne 1 6 (by decide) (by decide) (by decide))
  have f166 := SA_2_150.other W153 (hne 2 6 (by decide) (by decide) (by decide))
  have f167 := SA_3_150.other W153 (hne 3 6 (by decide) (by decide) (by decide))
  have f168 := SA_4_150.other W153 (hne 4 6 (by decide) (by decide) (by decide))
  have f169 := SA_5_150.other W153 (hne 5 6 (by decide) (by decide) (by decide))
  have f170 := SA_7_150.other W153 (hne 7 6 (by decide) (by decide) (by decide))
  have N153 := Fr.snoc X153 N150 (hn 6 (by decide))
  refine EndsQ.go st153 ?_
  show EndsQ _ _ _ _ _ _ _ (T153.setTop (mkF m 85 #[.val (.ref (oo 0)), .val (.int (0 : Int32)), .val (.int (0 : Int32)), .val (.int (0 : Int32)), .val (.int (1 : Int32)), .val (.double g0), .second] []))
  refine EndsQ.go (b := T153.setTop (mkF m 8 #[.val (.ref (oo 0)), .val (.int (0 : Int32)), .val (.int (0 : Int32)), .val (.int (0 : Int32)), .val (.int (1 : Int32)), .val (.double g0), .second] [(.ref (oo 0))])) (fun t k => ?_) ?_
  · show Steps p.tables e below (T153.setTop (mkF m 85 #[.val (.ref (oo 0)), .val (.int (0 : Int32)), .val (.int (0 : Int32)), .val (.int (0 : Int32)), .val (.int (1 : Int32)), .val (.double g0), .second] [])) _
    refine XS.goto X153.here hx rfl (pc0 := 85) (pc' := 7) rfl (hb hby d11_85) (by decide) (by decide) ?_
    refine XS.aloadN X153.here hx rfl (hb hby d11_7) rfl rfl ?_
    exact k
  obtain ⟨T171, X171, e171, st171⟩ := getF X153 hx hZ hown (host := "") (Or.inl (hw _ (List.mem_of_getElem? (i := 21) rfl))) Via.refl e153 f161 (g := (mkF m 8 #[.val (.ref (oo 0)), .val (.int (0 : Int32)), .val (.int (0 : Int32)), .val (.int (0 : Int32)), .val (.int (1 : Int32)), .val (.double g0), .second] [(.ref (oo 0))])) rfl rfl (hb hby d11_8)
  refine EndsQ.go st171 ?_
  show EndsQ _ _ _ _ _ _ _ (T171.setTop (mkF m 11 #[.val (.ref (oo 0)), .val (.int (0 : Int32)), .val (.int (0 : Int32)), .val (.int (0 : Int32)), .val (.int (1 : Int32)), .val (.double g0), .second] [(.ref (oo 6))]))
  refine EndsQ.go (b := T171.setTop (mkF m 12 #[.val (.ref (oo 0)), .val (.int (0 : Int32)), .val (.int (0 : Int32)), .val (.int (0 : Int32)), .val (.int (1 : Int32)), .val (.double g0), .second] [(.int (0 : Int32)), (.ref (oo 6))])) (fun t k => ?_) ?_
  · show Steps p.tables e below (T171.setTop (mkF m 11 #[.val (.ref (oo 0)), .val (.int (0 : Int32)), .val (.int (0 : Int32)), .val (.int (0 : Int32)), .val (.int (1 : Int32)), .val (.double g0), .second] [(.ref (oo 6))])) _
    refine XS.iloadN X171.here hx rfl (hb hby d11_11) rfl ?_
    show Steps p.tables e below (T171.setTop (mkF m 12 #[.val (.ref (oo 0)), .val (.int (0 : Int32)), .val (.int (0 : Int32)), .val (.int (0 : Int32)), .val (.int (1 : Int32)), .val (.double g0), .second] [(.int (0 : Int32)), (.ref (oo 6))])) _
    exact k
  obtain ⟨cl172, Ar172, q172, S172, M172, H172, G172⟩ := id fa153
  have hin172 : ¬ ((0 : Int32) < 0 ∨ cl172.slots.size ≤ ((0 : Int32)).toNatClampNeg) := inb_of S172 ⟨by decide, by decide⟩
  have hat172 : cl172.slots[((0 : Int32)).toNatClampNeg]? = some (.int (1 : Int32)) := Has.at H172 hin172 rfl
  refine EndsQ.go (fun t k => X171.iaload hx (j := (0 : Int32)) (v := (.int (1 : Int32))) (by rw [e171]; exact Ar172.1) (State.isArrayOf_alike hZ.alike Ar172.2.1) Ar172.2.2 hin172 hat172 (g := (mkF m 12 #[.val (.ref (oo 0)), .val (.int (0 : Int32)), .val (.int (0 : Int32)), .val (.int (0 : Int32)), .val (.int (1 : Int32)), .val (.double g0), .second] [(.int (0 : Int32)), (.ref (oo 6))])) rfl rfl (hb hby d11_12) _ k) ?_
  show EndsQ _ _ _ _ _ _ _ (T171.setTop (mkF m 13 #[.val (.ref (oo 0)), .val (.int (0 : Int32)), .val (.int (0 : Int32)), .val (.int (0 : Int32)), .val (.int (1 : Int32)), .val (.double g0), .second] [(.int (1 : Int32))]))
  refine EndsQ.go (b := T171.setTop (mkF m 89 #[.val (.ref (oo 0)), .val (.int (0 : Int32)), .val (.int (0 : Int32)), .val (.int (0 : Int32)), .val (.int (1 : Int32)), .val (.double g0), .second] [(.ref (oo 0))])) (fun t k => ?_) ?_
  · show Steps p.tables e below (T171.setTop (mkF m 13 #[.val (.ref (oo 0)), .val (.int (0 : Int32)), .val (.int (0 : Int32)), .val (.int (0 : Int32)), .val (.int (1 : Int32)), .val (.double g0), .second] [(.int (1 : Int32))])) _
    refine XS.iloadN X171.here hx rfl (hb hby d11_13) rfl ?_
    refine XS.icmpYes X171.here hx rfl (pc0 := 14) (pc' := 88) rfl (hb hby d11_14) rfl (tlt (by decide)).2.2.1 (by decide) (by decide) ?_
    show Steps p.tables e below (T171.setTop (mkF m 88 #[.val (.ref (oo 0)), .val (.int (0 : Int32)), .val (.int (0 : Int32)), .val (.int (0 : Int32)), .val (.int (1 : Int32)), .val (.double g0), .second] [])) _
    refine XS.aloadN X171.here hx rfl (hb hby d11_88) rfl rfl ?_
    exact k
  obtain ⟨T173, X173, e173, st173⟩ := getF X171 hx hZ hown (host := "") (Or.inl (hw _ (List.mem_of_getElem? (i := 19) rfl))) Via.refl e171 f160 (g := (mkF m 89 #[.val (.ref (oo 0)), .val (.int (0 : Int32)), .val (.int (0 : Int32)), .val (.int (0 : Int32)), .val (.int (1 : Int32)), .val (.double g0), .second] [(.ref (oo 0))])) rfl rfl (hb hby d11_89)
  refine EndsQ.go st173 ?_
  show EndsQ _ _ _ _ _ _ _ (T173.setTop (mkF m 92 #[.val (.ref (oo 0)), .val (.int (0 : Int32)), .val (.int (0 : Int32)), .val (.int (0 : Int32)), .val (.int (1 : Int32)), .val (.double g0), .second] [(.ref (oo 5))]))
  refine EndsQ.go (b := T173.setTop (mkF m 93 #[.val (.ref (oo 0)), .val (.int (0 : Int32)), .val (.int (0 : Int32)), .val (.int (0 : Int32)), .val (.int (1 : Int32)), .val (.double g0), .second] [(.ref (oo 0)), (.ref (oo 5))])) (fun t k => ?_) ?_
  · show Steps p.tables e below (T173.setTop (mkF m 92 #[.val (.ref (oo 0)), .val (.int (0 : Int32)), .val (.int (0 : Int32)), .val (.int (0 : Int32)), .val (.int (1 : Int32)), .val (.double g0), .second] [(.ref (oo 5))])) _
    refine XS.aloadN X173.here hx rfl (hb hby d11_92) rfl rfl ?_
    exact k
  obtain ⟨T174, X174, e174, st174⟩ := getF X173 hx hZ hown (host := "") (Or.inl (hw _ (List.mem_of_getElem? (i := 17) rfl))) Via.refl e173 f159 (g := (mkF m 93 #[.val (.ref (oo 0)), .val (.int (0 : Int32)), .val (.int (0 : Int32)), .val (.int (0 : Int32)), .val (.int (1 : Int32)), .val (.double g0), .second] [(.ref (oo 0)), (.ref (oo 5))])) rfl rfl (hb hby d11_93)
  refine EndsQ.go st174 ?_
  show EndsQ _ _ _ _ _ _ _ (T174.setTop (mkF m 96 #[.val (.ref (oo 0)), .val (.int (0 : Int32)), .val (.int (0 : Int32)), .val (.int (0 : Int32)), .val (.int (1 : Int32)), .val (.double g0), .second] [(.ref (oo 4)), (.ref (oo 5))]))
  refine EndsQ.go (b := T174.setTop (mkF m 99 #[.val (.ref (oo 0)), .val (.int (0 : Int32)), .val (.int (0 : Int32)), .val (.int (0 : Int32)), .val (.int (1 : Int32)), .val (.double g0), .second] [(.int (1 : Int32)), (.ref (oo 4)), (.ref (oo 5))])) (fun t k => ?_) ?_
  · show Steps p.tables e below (T174.setTop (mkF m 96 #[.val (.ref (oo 0)), .val (.int (0 : Int32)), .val (.int (0 : Int32)), .val (.int (0 : Int32)), .val (.int (1 : Int32)), .val (.double g0), .second] [(.ref (oo 4)), (.ref (oo 5))])) _
    refine XS.iloadN X174.here hx rfl (hb hby d11_96) rfl ?_
    show Steps p.tables e below (T174.setTop (mkF m 97 #[.val (.ref (oo 0)), .val (.int (0 : Int32)), .val (.int (0 : Int32)), .val (.int (0 : Int32)), .val (.int (1 : Int32)), .val (.double g0), .second] [(.int (0 : Int32)), (.ref (oo 4)), (.ref (oo 5))])) _
    refine XS.iconst X174.here hx rfl (hb hby d11_97) ?_
    refine XS.iadd X174.here hx rfl (hb hby d11_98) rfl ?_
    show Steps p.tables e below (T174.setTop (mkF m 99 #[.val (.ref (oo 0)), .val (.int (0 : Int32)), .val (.int (0 : Int32)), .val (.int (0 : Int32)), .val (.int (1 : Int32)), .val (.double g0), .second] [(.int ((0 : Int32) + (1 : Int32))), (.ref (oo 4)), (.ref (oo 5))])) _
    rw [(by decide : ((0 : Int32) + (1 : Int32)) = (1 : Int32))]
    show Steps p.tables e below (T174.setTop (mkF m 99 #[.val (.ref (oo 0)), .val (.int (0 : Int32)), .val (.int (0 : Int32)), .val (.int (0 : Int32)), .val (.int (1 : Int32)), .val (.double g0), .second] [(.int (1 : Int32)), (.ref (oo 4)), (.ref (oo 5))])) _
    exact k
  obtain ⟨cl175, Ar175, q175, S175, M175, H175, G175⟩ := id f168
  have hin175 : ¬ ((1 : Int32) < 0 ∨ cl175.slots.size ≤ ((1 : Int32)).toNatClampNeg) := inb_of S175 ⟨by decide, by decide⟩
  have hat175 : cl175.slots[((1 : Int32)).toNatClampNeg]? = some (.int (2 : Int32)) := Has.at H175 hin175 rfl
  refine EndsQ.go (fun t k => X174.iaload hx (j := (1 : Int32)) (v := (.int (2 : Int32))) (by rw [e174]; exact Ar175.1) (State.isArrayOf_alike hZ.alike Ar175.2.1) Ar175.2.2 hin175 hat175 (g := (mkF m 99 #[.val (.ref (oo 0)), .val (.int (0 : Int32)), .val (.int (0 : Int32)), .val (.int (0 : Int32)), .val (.int (1 : Int32)), .val (.double g0), .second] [(.int (1 : Int32)), (.ref (oo 4)), (.ref (oo 5))])) rfl rfl (hb hby d11_99) _ k) ?_
  show EndsQ _ _ _ _ _ _ _ (T174.setTop (mkF m 100 #[.val (.ref (oo 0)), .val (.int (0 : Int32)), .val (.int (0 : Int32)), .val (.int (0 : Int32)), .val (.int (1 : Int32)), .val (.double g0), .second] [(.int (2 : Int32)), (.ref (oo 5))]))
  refine EndsQ.go (b := T174.setTop (mkF m 104 #[.val (.ref (oo 0)), .val (.int (0 : Int32)), .val (.int (0 : Int32)), .val (.int (0 : Int32)), .val (.int (1 : Int32)), .val (.double g0), .second] [(.int (1 : Int32)), (.ref (oo 5))])) (fun t k => ?_) ?_
  · show Steps p.tables e below (T174.setTop (mkF m 100 #[.val (.ref (oo 0)), .val (.int (0 : Int32)), .val (.int (0 : Int32)), .val (.int (0 : Int32)), .val (.int (1 : Int32)), .val (.double g0), .second] [(.int (2 : Int32)), (.ref (oo 5))])) _
    refine XS.iconst X174.here hx rfl (hb hby d11_100) ?_
    refine XS.isub X174.here hx rfl (hb hby d11_101) rfl ?_
    show Steps p.tables e below (T174.setTop (mkF m 102 #[.val (.ref (oo 0)), .val (.int (0 : Int32)), .val (.int (0 : Int32)), .val (.int (0 : Int32)), .val (.int (1 : Int32)), .val (.double g0), .second] [(.int ((2 : Int32) - (1 : Int32))), (.ref (oo 5))])) _
    rw [(by decide : ((2 : Int32) - (1 : Int32)) = (1 : Int32))]
    show Steps p.tables e below (T174.setTop (mkF m 102 #[.val (.ref (oo 0)), .val (.int (0 : Int32)), .val (.int (0 : Int32)), .val (.int (0 : Int32)), .val (.int (1 : Int32)), .val (.double g0), .second] [(.int (1 : Int32)), (.ref (oo 5))])) _
    refine XS.iloadN X174.here hx rfl (hb hby d11_102) rfl ?_
    refine XS.isub X174.here hx rfl (hb hby d11_103) rfl ?_
    show Steps p.tables e below (T174.setTop (mkF m 104 #[.val (.ref (oo 0)), .val (.int (0 : Int32)), .val (.int (0 : Int32)), .val (.int (0 : Int32)), .val (.int (1 : Int32)), .val (.double g0), .second] [(.int ((1 : Int32) - (0 : Int32))), (.ref (oo 5))])) _
    rw [(by decide : ((1 : Int32) - (0 : Int32)) = (1 : Int32))]
    show Steps p.tables e below (T174.setTop (mkF m 104 #[.val (.ref (oo 0)), .val (.int (0 : Int32)), .val (.int (0 : Int32)), .val (.int (0 : Int32)), .val (.int (1 : Int32)), .val (.double g0), .second] [(.int (1 : Int32)), (.ref (oo 5))])) _
    exact k
  obtain ⟨cl176, Ar176, q176, S176, M176, H176, G176⟩ := id f169
  have hin176 : ¬ ((1 : Int32) < 0 ∨ cl176.slots.size ≤ ((1 : Int32)).toNatClampNeg) := inb_of S176 ⟨by decide, by decide⟩
  have hat176 : cl176.slots[((1 : Int32)).toNatClampNeg]? = some (.double g0) := Has.at H176 hin176 rfl
  refine EndsQ.go (fun t k => X174.daload hx (j := (1 : Int32)) (v := (.double g0)) (by rw [e174]; exact Ar176.1) (State.isArrayOf_alike hZ.alike Ar176.2.1) Ar176.2.2 hin176 hat176 (g := (mkF m 104 #[.val (.ref (oo 0)), .val (.int (0 : Int32)), .val (.int (0 : Int32)), .val (.int (0 : Int32)), .val (.int (1 : Int32)), .val (.double g0), .second] [(.int (1 : Int32)), (.ref (oo 5))])) rfl rfl (hb hby d11_104) _ k) ?_
  show EndsQ _ _ _ _ _ _ _ (T174.setTop (mkF m 105 #[.val (.ref (oo 0)), .val (.int (0 : Int32)), .val (.int (0 : Int32)), .val (.int (0 : Int32)), .val (.int (1 : Int32)), .val (.double g0), .second] [(.double g0)]))
  refine EndsQ.retD X174 hx Bd.notSynchronized Bd.returns (hb hby d11_105) (by decide) (by decide) ?_
  show QConf1 Z oo kk c0 c1 c2 r0 r1 r2 d0 d1 d2 s2 g0 g1 g2 t1 t2 vx cnt sz h0 n0 (some (.double g0)) T174.heap _
  rw [e174]
  exact ⟨rfl, N153, f154, ⟨f155, f156, f157, f158, f159, f160, f161, f162, f163, f164, f165, f166, f167, f168, f169, fa153, f170⟩⟩
theorem ef_Conf2 (m : MethodId) (x0 : Addr) (x1 : Int32) (x2 : Int32) : entryFrame m #[(.ref x0), (.int x1), (.int x2)] 7 = mkF m 0 #[.val (.ref x0), .val (.int x1), .val (.int x2), .unset, .unset, .unset, .unset] [] := by first | (simp [entryFrame, mkF, argsToLocals, Value.category]; done) | rfl
def QConf2 (Z : State) (oo : Nat → Addr) (kk : Nat → ClassId) (c0 : Int32) (c1 : Int32) (c2 : Int32) (r0 : Int32) (r1 : Int32) (r2 : Int32) (d0 : UInt64) (d1 : UInt64) (d2 : UInt64) (s2 : Int32) (g0 : UInt64) (g1 : UInt64) (g2 : UInt64) (t1 : Int32) (t2 : Int32) (vx : List Value) (cnt : Int32) (sz : Int32) (h0 : Heap) (n0 : Nat) (v : Option Value) (h : Heap) (L : List Loc) : Prop := v = some (.double g0) ∧ Fr n0 L ∧ n0 ≤ h.size ∧ own_St Z h oo kk cnt sz [(.int c0), (.int c1), (.int c2)] [(.int r0), (.int r1), (.int r2)] [(.double d0), (.double d1), (.double d2)] [(.int (0 : Int32)), (.int (1 : Int32)), (.int s2)] [(.double g0), (.double g1), (.double g2)] [(.int (1 : Int32)), (.int t1), (.int t2)] vx
set_option maxRecDepth 65536 in
set_option maxHeartbeats 40000000 in
theorem rmConf2 (l : Launch) (Z : State) (a0 : Array Value) (hw : ∀ d ∈ tables_1, d.before a0 Z = true) (ws : List Jvm.Cond) (oo : Nat → Addr) (kk : Nat → ClassId) (c0 : Int32) (c1 : Int32) (c2 : Int32) (r0 : Int32) (r1 : Int32) (r2 : Int32) (d0 : UInt64) (d1 : UInt64) (d2 : UInt64) (s2 : Int32) (g0 : UInt64) (g1 : UInt64) (g2 : UInt64) (t1 : Int32) (t2 : Int32) (vx : List Value) (cnt : Int32) (sz : Int32) (h0 : Heap) (n0 : Nat) (Z0 : n0 ≤ h0.size) (hne : own_ne oo) (hn : own_nn n0 oo) (HS : own_St Z h0 oo kk cnt sz [(.int c0), (.int c1), (.int c2)] [(.int r0), (.int r1), (.int r2)] [(.double d0), (.double d1), (.double d2)] [(.int (0 : Int32)), (.int (1 : Int32)), (.int s2)] [(.double g0), (.double g1), (.double g2)] [(.int (0 : Int32)), (.int t1), (.int t2)] vx) :
    MetFree l (⟨"com/example/physarum/physarum/Proposals", "confidence", "(II)D"⟩ : MethodName) (head1 (Jvm.Cond.code (⟨"com/example/physarum/physarum/Proposals", "confidence", "(II)D"⟩ : MethodName) prog_44_method_9_code 7 (some .double) :: ws) ({ frames := 1, cells := 0, slots := 0, locals := 40 } : Room)) (fun a U => a = #[(.ref (oo 0)), (.int (0 : Int32)), (.int (0 : Int32))] ∧ Z.Warmed39 U.vm ∧ U.heap = h0) (fun _ _ _ _ _ => True) (fun _ U o U' => ∃ v L, o = .returned v ∧ QConf2 Z oo kk c0 c1 c2 r0 r1 r2 d0 d1 d2 s2 g0 g1 g2 t1 t2 vx cnt sz h0 n0 v U'.heap L ∧ FrameEnd U o U' L ({ frames := 1, cells := 0, slots := 0, locals := 40 } : Room).cells ({ frames := 1, cells := 0, slots := 0, locals := 40 } : Room).slots) := by
  refine MetFree.of_bodySF (plainFor_of_name pn_11) hisR ?_
  intro p e s m args below meth c s₁ Bd hml0 hP hK
  obtain ⟨rfl, hZ, hh⟩ := hP
  have hx := Bd.exec
  have hby := Bd.bytes
  have hml : c.maxLocals = 7 := hml0
  have hown : s.vm.findClass "com/example/physarum/physarum/Proposals" = some m.cls := findClass_of_methodNamed Bd.named
  have hnm := (name_of_methodNamed Bd.named Bd.method).1
  have X0 : Stand p l e ({ frames := 1, cells := 0, slots := 0, locals := 40 } : Room) s m #[(.ref (oo 0)), (.int (0 : Int32)), (.int (0 : Int32))] below meth c s₁ [] 0 0 := Stand.of_body Bd
  have e0 : s₁.heap = h0 := by rw [← hh, Bd.state]; rfl
  have N0 := Fr.nil n0
  show EndsQ p.tables e below s (fun v h L => QConf2 Z oo kk c0 c1 c2 r0 r1 r2 d0 d1 d2 s2 g0 g1 g2 t1 t2 vx cnt sz h0 n0 v h L) ({ frames := 1, cells := 0, slots := 0, locals := 40 } : Room).cells ({ frames := 1, cells := 0, slots := 0, locals := 40 } : Room).slots _
  refine EndsQ.go (b := s₁.setTop (mkF m 0 #[.val (.ref (oo 0)), .val (.int (0 : Int32)), .val (.int (0 : Int32)), .unset, .unset, .unset, .unset] [])) (fun t k => castTop (ef_Conf2 m (oo 0) (0 : Int32) (0 : Int32)) k) ?_
  have HS0 := HS
  obtain ⟨SE, SF_candidates, SF_proposed, SF_confidences, SF_starts, SF_arranged, SF_taken, SF_indices, SF_cnt, SF_sz, SA_1, SA_2, SA_3, SA_4, SA_5, SA_6, SA_7⟩ := HS
  refine EndsQ.go (b := s₁.setTop (mkF m 1 #[.val (.ref (oo 0)), .val (.int (0 : Int32)), .val (.int (0 : Int32)), .unset, .unset, .unset, .unset] [(.ref (oo 0))])) (fun t k => ?_) ?_
  · show Steps p.tables e below (s₁.setTop (mkF m 0 #[.val (.ref (oo 0)), .val (.int (0 : Int32)), .val (.int (0 : Int32)), .unset, .unset, .unset, .unset] [])) _
    refine XS.aloadN X0.here hx rfl (hb hby d11_0) rfl rfl ?_
    exact k
  obtain ⟨T101, X101, e101, st101⟩ := getF X0 hx hZ hown (host := "") (Or.inl (hw _ (List.mem_of_getElem? (i := 17) rfl))) Via.refl e0 SF_starts (g := (mkF m 1 #[.val (.ref (oo 0)), .val (.int (0 : Int32)), .val (.int (0 : Int32)), .unset, .unset, .unset, .unset] [(.ref (oo 0))])) rfl rfl (hb hby d11_1)
  refine EndsQ.go st101 ?_
  show EndsQ _ _ _ _ _ _ _ (T101.setTop (mkF m 4 #[.val (.ref (oo 0)), .val (.int (0 : Int32)), .val (.int (0 : Int32)), .unset, .unset, .unset, .unset] [(.ref (oo 4))]))
  refine EndsQ.go (b := T101.setTop (mkF m 5 #[.val (.ref (oo 0)), .val (.int (0 : Int32)), .val (.int (0 : Int32)), .unset, .unset, .unset, .unset] [(.int (0 : Int32)), (.ref (oo 4))])) (fun t k => ?_) ?_
  · show Steps p.tables e below (T101.setTop (mkF m 4 #[.val (.ref (oo 0)), .val (.int (0 : Int32)), .val (.int (0 : Int32)), .unset, .unset, .unset, .unset] [(.ref (oo 4))])) _
    refine XS.iloadN X101.here hx rfl (hb hby d11_4) rfl ?_
    exact k
  obtain ⟨cl102, Ar102, q102, S102, M102, H102, G102⟩ := id SA_4
  have hin102 : ¬ ((0 : Int32) < 0 ∨ cl102.slots.size ≤ ((0 : Int32)).toNatClampNeg) := inb_of S102 ⟨by decide, by decide⟩
  have hat102 : cl102.slots[((0 : Int32)).toNatClampNeg]? = some (.int (0 : Int32)) := Has.at H102 hin102 rfl
  refine EndsQ.go (fun t k => X101.iaload hx (j := (0 : Int32)) (v := (.int (0 : Int32))) (by rw [e101]; exact Ar102.1) (State.isArrayOf_alike hZ.alike Ar102.2.1) Ar102.2.2 hin102 hat102 (g := (mkF m 5 #[.val (.ref (oo 0)), .val (.int (0 : Int32)), .val (.int (0 : Int32)), .unset, .unset, .unset, .unset] [(.int (0 : Int32)), (.ref (oo 4))])) rfl rfl (hb hby d11_5) _ k) ?_
  show EndsQ _ _ _ _ _ _ _ (T101.setTop (mkF m 6 #[.val (.ref (oo 0)), .val (.int (0 : Int32)), .val (.int (0 : Int32)), .unset, .unset, .unset, .unset] [(.int (0 : Int32))]))
  refine EndsQ.go (b := T101.setTop (mkF m 8 #[.val (.ref (oo 0)), .val (.int (0 : Int32)), .val (.int (0 : Int32)), .val (.int (0 : Int32)), .unset, .unset, .unset] [(.ref (oo 0))])) (fun t k => ?_) ?_
  · show Steps p.tables e below (T101.setTop (mkF m 6 #[.val (.ref (oo 0)), .val (.int (0 : Int32)), .val (.int (0 : Int32)), .unset, .unset, .unset, .unset] [(.int (0 : Int32))])) _
    refine XS.istoreN X101.here hx rfl (hb hby d11_6) rfl (l' := #[.val (.ref (oo 0)), .val (.int (0 : Int32)), .val (.int (0 : Int32)), .val (.int (0 : Int32)), .unset, .unset, .unset]) rfl ?_
    refine XS.aloadN X101.here hx rfl (hb hby d11_7) rfl rfl ?_
    show Steps p.tables e below (T101.setTop (mkF m 8 #[.val (.ref (oo 0)), .val (.int (0 : Int32)), .val (.int (0 : Int32)), .val (.int (0 : Int32)), .unset, .unset, .unset] [(.ref (oo 0))])) _
    exact k
  obtain ⟨T103, X103, e103, st103⟩ := getF X101 hx hZ hown (host := "") (Or.inl (hw _ (List.mem_of_getElem? (i := 21) rfl))) Via.refl e101 SF_taken (g := (mkF m 8 #[.val (.ref (oo 0)), .val (.int (0 : Int32)), .val (.int (0 : Int32)), .val (.int (0 : Int32)), .unset, .unset, .unset] [(.ref (oo 0))])) rfl rfl (hb hby d11_8)
  refine EndsQ.go st103 ?_
  show EndsQ _ _ _ _ _ _ _ (T103.setTop (mkF m 11 #[.val (.ref (oo 0)), .val (.int (0 : Int32)), .val (.int (0 : Int32)), .val (.int (0 : Int32)), .unset, .unset, .unset] [(.ref (oo 6))]))
  refine EndsQ.go (b := T103.setTop (mkF m 12 #[.val (.ref (oo 0)), .val (.int (0 : Int32)), .val (.int (0 : Int32)), .val (.int (0 : Int32)), .unset, .unset, .unset] [(.int (0 : Int32)), (.ref (oo 6))])) (fun t k => ?_) ?_
  · show Steps p.tables e below (T103.setTop (mkF m 11 #[.val (.ref (oo 0)), .val (.int (0 : Int32)), .val (.int (0 : Int32)), .val (.int (0 : Int32)), .unset, .unset, .unset] [(.ref (oo 6))])) _
    refine XS.iloadN X103.here hx rfl (hb hby d11_11) rfl ?_
    exact k
  obtain ⟨cl104, Ar104, q104, S104, M104, H104, G104⟩ := id SA_6
  have hin104 : ¬ ((0 : Int32) < 0 ∨ cl104.slots.size ≤ ((0 : Int32)).toNatClampNeg) := inb_of S104 ⟨by decide, by decide⟩
  have hat104 : cl104.slots[((0 : Int32)).toNatClampNeg]? = some (.int (0 : Int32)) := Has.at H104 hin104 rfl
  refine EndsQ.go (fun t k => X103.iaload hx (j := (0 : Int32)) (v := (.int (0 : Int32))) (by rw [e103]; exact Ar104.1) (State.isArrayOf_alike hZ.alike Ar104.2.1) Ar104.2.2 hin104 hat104 (g := (mkF m 12 #[.val (.ref (oo 0)), .val (.int (0 : Int32)), .val (.int (0 : Int32)), .val (.int (0 : Int32)), .unset, .unset, .unset] [(.int (0 : Int32)), (.ref (oo 6))])) rfl rfl (hb hby d11_12) _ k) ?_
  show EndsQ _ _ _ _ _ _ _ (T103.setTop (mkF m 13 #[.val (.ref (oo 0)), .val (.int (0 : Int32)), .val (.int (0 : Int32)), .val (.int (0 : Int32)), .unset, .unset, .unset] [(.int (0 : Int32))]))
  refine EndsQ.go (b := T103.setTop (mkF m 19 #[.val (.ref (oo 0)), .val (.int (0 : Int32)), .val (.int (0 : Int32)), .val (.int (0 : Int32)), .unset, .unset, .unset] [(.int (0 : Int32)), (.ref (oo 0))])) (fun t k => ?_) ?_
  · show Steps p.tables e below (T103.setTop (mkF m 13 #[.val (.ref (oo 0)), .val (.int (0 : Int32)), .val (.int (0 : Int32)), .val (.int (0 : Int32)), .unset, .unset, .unset] [(.int (0 : Int32))])) _
    refine XS.iloadN X103.here hx rfl (hb hby d11_13) rfl ?_
    refine XS.icmpNo X103.here hx rfl (hb hby d11_14) rfl (flt (by decide)).2.2.1 ?_
    show Steps p.tables e below (T103.setTop (mkF m 17 #[.val (.ref (oo 0)), .val (.int (0 : Int32)), .val (.int (0 : Int32)), .val (.int (0 : Int32)), .unset, .unset, .unset] [])) _
    refine XS.aloadN X103.here hx rfl (hb hby d11_17) rfl rfl ?_
    refine XS.iloadN X103.here hx rfl (hb hby d11_18) rfl ?_
    show Steps p.tables e below (T103.setTop (mkF m 19 #[.val (.ref (oo 0)), .val (.int (0 : Int32)), .val (.int (0 : Int32)), .val (.int (0 : Int32)), .unset, .unset, .unset] [(.int (0 : Int32)), (.ref (oo 0))])) _
    exact k
  obtain ⟨cq105, kq105, qa105, qb105, qc105⟩ := isOf hZ e103 SE
  obtain ⟨_, _, ⟨T105, L105, kk105, nn105⟩, -, X105, ⟨Lc105, hQ105, l105, y105, z105⟩, st105⟩ := X103.virtualBack hx (y := (⟨"com/example/physarum/physarum/Proposals", "count", "(I)I"⟩ : MethodName)) (z := (⟨"com/example/physarum/physarum/Proposals", "count", "(I)I"⟩ : MethodName)) hown (mvT hZ (hw _ (List.mem_of_getElem? (i := 50) rfl))) (mvT hZ (hw _ (List.mem_of_getElem? (i := 51) rfl))) (notFace_of_selects (args := #[]) (mvT hZ (hw _ (List.mem_of_getElem? (i := 53) rfl)))) (mvT hZ (hw _ (List.mem_of_getElem? (i := 53) rfl))) (mvT hZ (hw _ (List.mem_of_getElem? (i := 52) rfl))) (by decide) (backOf (W := 0) (rmCo0 l Z a0 hw [] oo kk c0 c1 c2 r0 r1 r2 d0 d1 d2 (0 : Int32) (1 : Int32) s2 g0 g1 g2 (0 : Int32) t1 t2 vx cnt sz h0 n0 Z0 hne hn ⟨SE, SF_candidates, SF_proposed, SF_confidences, SF_starts, SF_arranged, SF_taken, SF_indices, SF_cnt, SF_sz, SA_1, SA_2, SA_3, SA_4, SA_5, SA_6, SA_7⟩) hZ (hw _ (List.mem_of_getElem? (i := 54) rfl)) (hw _ (List.mem_of_getElem? (i := 2) rfl)) (by decide) (by decide)) qa105 qc105 (g := (mkF m 19 #[.val (.ref (oo 0)), .val (.int (0 : Int32)), .val (.int (0 : Int32)), .val (.int (0 : Int32)), .unset, .unset, .unset] [(.int (0 : Int32)), (.ref (oo 0))])) rfl (by rw [hml]; rfl) (Steps.refl _) (argsL := [(.int (0 : Int32))]) (rest := []) (lenOf pd_1 rfl) rfl (by show 2 * 0 + _ ≤ _; exact Nat.le_of_eq rfl) (hb hby d11_19) (fun _ _ => ⟨rfl, e103, (by decide : 0 + 0 ≤ _), (by decide : 0 + 0 ≤ _)⟩)
  dsimp only [Pt.U, Pt.locs, Pt.cells, Pt.slots] at X105 l105 y105 z105 st105 hQ105
  subst l105 y105 z105
  obtain ⟨rfl, Nq105, eq105⟩ := hQ105
  have N105 := Fr.app N0 Nq105
  refine EndsQ.go (fun t k => st105.trans k) ?_
  show EndsQ _ _ _ _ _ _ _ (T105.setTop (mkF m 22 #[.val (.ref (oo 0)), .val (.int (0 : Int32)), .val (.int (0 : Int32)), .val (.int (0 : Int32)), .unset, .unset, .unset] [(.int ((1 : Int32) - (0 : Int32)))]))
  rw [(by decide : ((1 : Int32) - (0 : Int32)) = (1 : Int32))]
  show EndsQ _ _ _ _ _ _ _ (T105.setTop (mkF m 22 #[.val (.ref (oo 0)), .val (.int (0 : Int32)), .val (.int (0 : Int32)), .val (.int (0 : Int32)), .unset, .unset, .unset] [(.int (1 : Int32))]))
  refine EndsQ.go (b := T105.setTop (mkF m 25 #[.val (.ref (oo 0)), .val (.int (0 : Int32)), .val (.int (0 : Int32)), .val (.int (0 : Int32)), .unset, .unset, .unset] [(.ref (oo 0)), (.int (0 : Int32))])) (fun t k => ?_) ?_
  · show Steps p.tables e below (T105.setTop (mkF m 22 #[.val (.ref (oo 0)), .val (.int (0 : Int32)), .val (.int (0 : Int32)), .val (.int (0 : Int32)), .unset, .unset, .unset] [(.int (1 : Int32))])) _
    refine XS.iconst X105.here hx rfl (hb hby d11_22) ?_
    refine XS.isub X105.here hx rfl (hb hby d11_23) rfl ?_
    show Steps p.tables e below (T105.setTop (mkF m 24 #[.val (.ref (oo 0)), .val (.int (0 : Int32)), .val (.int (0 : Int32)), .val (.int (0 : Int32)), .unset, .unset, .unset] [(.int ((1 : Int32) - (1 : Int32)))])) _
    rw [(by decide : ((1 : Int32) - (1 : Int32)) = (0 : Int32))]
    show Steps p.tables e below (T105.setTop (mkF m 24 #[.val (.ref (oo 0)), .val (.int (0 : Int32)), .val (.int (0 : Int32)), .val (.int (0 : Int32)), .unset, .unset, .unset] [(.int (0 : Int32))])) _
    refine XS.aloadN X105.here hx rfl (hb hby d11_24) rfl rfl ?_
    exact k
  obtain ⟨T106, X106, e106, st106⟩ := getF X105 hx hZ hown (host := "") (Or.inl (hw _ (List.mem_of_getElem? (i := 21) rfl))) Via.refl eq105 SF_taken (g := (mkF m 25 #[.val (.ref (oo 0)), .val (.int (0 : Int32)), .val (.int (0 : Int32)), .val (.int (0 : Int32)), .unset, .unset, .unset] [(.ref (oo 0)), (.int (0 : Int32))])) rfl rfl (hb hby d11_25)
  refine EndsQ.go st106 ?_
  show EndsQ _ _ _ _ _ _ _ (T106.setTop (mkF m 28 #[.val (.ref (oo 0)), .val (.int (0 : Int32)), .val (.int (0 : Int32)), .val (.int (0 : Int32)), .unset, .unset, .unset] [(.ref (oo 6)), (.int (0 : Int32))]))
  refine EndsQ.go (b := T106.setTop (mkF m 29 #[.val (.ref (oo 0)), .val (.int (0 : Int32)), .val (.int (0 : Int32)), .val (.int (0 : Int32)), .unset, .unset, .unset] [(.int (0 : Int32)), (.ref (oo 6)), (.int (0 : Int32))])) (fun t k => ?_) ?_
  · show Steps p.tables e below (T106.setTop (mkF m 28 #[.val (.ref (oo 0)), .val (.int (0 : Int32)), .val (.int (0 : Int32)), .val (.int (0 : Int32)), .unset, .unset, .unset] [(.ref (oo 6)), (.int (0 : Int32))])) _
    refine XS.iloadN X106.here hx rfl (hb hby d11_28) rfl ?_
    show Steps p.tables e below (T106.setTop (mkF m 29 #[.val (.ref (oo 0)), .val (.int (0 : Int32)), .val (.int (0 : Int32)), .val (.int (0 : Int32)), .unset, .unset, .unset] [(.int (0 : Int32)), (.ref (oo 6)), (.int (0 : Int32))])) _
    exact k
  obtain ⟨cl107, Ar107, q107, S107, M107, H107, G107⟩ := id SA_6
  have hin107 : ¬ ((0 : Int32) < 0 ∨ cl107.slots.size ≤ ((0 : Int32)).toNatClampNeg) := inb_of S107 ⟨by decide, by decide⟩
  have hat107 : cl107.slots[((0 : Int32)).toNatClampNeg]? = some (.int (0 : Int32)) := Has.at H107 hin107 rfl
  refine EndsQ.go (fun t k => X106.iaload hx (j := (0 : Int32)) (v := (.int (0 : Int32))) (by rw [e106]; exact Ar107.1) (State.isArrayOf_alike hZ.alike Ar107.2.1) Ar107.2.2 hin107 hat107 (g := (mkF m 29 #[.val (.ref (oo 0)), .val (.int (0 : Int32)), .val (.int (0 : Int32)), .val (.int (0 : Int32)), .unset, .unset, .unset] [(.int (0 : Int32)), (.ref (oo 6)), (.int (0 : Int32))])) rfl rfl (hb hby d11_29) _ k) ?_
  show EndsQ _ _ _ _ _ _ _ (T106.setTop (mkF m 30 #[.val (.ref (oo 0)), .val (.int (0 : Int32)), .val (.int (0 : Int32)), .val (.int (0 : Int32)), .unset, .unset, .unset] [(.int (0 : Int32)), (.int (0 : Int32))]))
  refine EndsQ.go (b := T106.setTop (mkF m 34 #[.val (.ref (oo 0)), .val (.int (0 : Int32)), .val (.int (0 : Int32)), .val (.int (0 : Int32)), .val (.int (0 : Int32)), .unset, .unset] [(.ref (oo 0))])) (fun t k => ?_) ?_
  · show Steps p.tables e below (T106.setTop (mkF m 30 #[.val (.ref (oo 0)), .val (.int (0 : Int32)), .val (.int (0 : Int32)), .val (.int (0 : Int32)), .unset, .unset, .unset] [(.int (0 : Int32)), (.int (0 : Int32))])) _
    refine XS.isub X106.here hx rfl (hb hby d11_30) rfl ?_
    show Steps p.tables e below (T106.setTop (mkF m 31 #[.val (.ref (oo 0)), .val (.int (0 : Int32)), .val (.int (0 : Int32)), .val (.int (0 : Int32)), .unset, .unset, .unset] [(.int ((0 : Int32) - (0 : Int32)))])) _
    rw [(by decide : ((0 : Int32) - (0 : Int32)) = (0 : Int32))]
    show Steps p.tables e below (T106.setTop (mkF m 31 #[.val (.ref (oo 0)), .val (.int (0 : Int32)), .val (.int (0 : Int32)), .val (.int (0 : Int32)), .unset, .unset, .unset] [(.int (0 : Int32))])) _
    refine XS.istore X106.here hx rfl (hb hby d11_31) rfl (l' := #[.val (.ref (oo 0)), .val (.int (0 : Int32)), .val (.int (0 : Int32)), .val (.int (0 : Int32)), .val (.int (0 : Int32)), .unset, .unset]) rfl ?_
    refine XS.aloadN X106.here hx rfl (hb hby d11_33) rfl rfl ?_
    exact k
  obtain ⟨T108, X108, e108, st108⟩ := getF X106 hx hZ hown (host := "") (Or.inl (hw _ (List.mem_of_getElem? (i := 19) rfl))) Via.refl e106 SF_arranged (g := (mkF m 34 #[.val (.ref (oo 0)), .val (.int (0 : Int32)), .val (.int (0 : Int32)), .val (.int (0 : Int32)), .val (.int (0 : Int32)), .unset, .unset] [(.ref (oo 0))])) rfl rfl (hb hby d11_34)
  refine EndsQ.go st108 ?_
  show EndsQ _ _ _ _ _ _ _ (T108.setTop (mkF m 37 #[.val (.ref (oo 0)), .val (.int (0 : Int32)), .val (.int (0 : Int32)), .val (.int (0 : Int32)), .val (.int (0 : Int32)), .unset, .unset] [(.ref (oo 5))]))
  refine EndsQ.go (b := T108.setTop (mkF m 38 #[.val (.ref (oo 0)), .val (.int (0 : Int32)), .val (.int (0 : Int32)), .val (.int (0 : Int32)), .val (.int (0 : Int32)), .unset, .unset] [(.int (0 : Int32)), (.ref (oo 5))])) (fun t k => ?_) ?_
  · show Steps p.tables e below (T108.setTop (mkF m 37 #[.val (.ref (oo 0)), .val (.int (0 : Int32)), .val (.int (0 : Int32)), .val (.int (0 : Int32)), .val (.int (0 : Int32)), .unset, .unset] [(.ref (oo 5))])) _
    refine XS.iloadN X108.here hx rfl (hb hby d11_37) rfl ?_
    show Steps p.tables e below (T108.setTop (mkF m 38 #[.val (.ref (oo 0)), .val (.int (0 : Int32)), .val (.int (0 : Int32)), .val (.int (0 : Int32)), .val (.int (0 : Int32)), .unset, .unset] [(.int (0 : Int32)), (.ref (oo 5))])) _
    exact k
  obtain ⟨cl109, Ar109, q109, S109, M109, H109, G109⟩ := id SA_5
  have hin109 : ¬ ((0 : Int32) < 0 ∨ cl109.slots.size ≤ ((0 : Int32)).toNatClampNeg) := inb_of S109 ⟨by decide, by decide⟩
  have hat109 : cl109.slots[((0 : Int32)).toNatClampNeg]? = some (.double g0) := Has.at H109 hin109 rfl
  refine EndsQ.go (fun t k => X108.daload hx (j := (0 : Int32)) (v := (.double g0)) (by rw [e108]; exact Ar109.1) (State.isArrayOf_alike hZ.alike Ar109.2.1) Ar109.2.2 hin109 hat109 (g := (mkF m 38 #[.val (.ref (oo 0)), .val (.int (0 : Int32)), .val (.int (0 : Int32)), .val (.int (0 : Int32)), .val (.int (0 : Int32)), .unset, .unset] [(.int (0 : Int32)), (.ref (oo 5))])) rfl rfl (hb hby d11_38) _ k) ?_
  show EndsQ _ _ _ _ _ _ _ (T108.setTop (mkF m 39 #[.val (.ref (oo 0)), .val (.int (0 : Int32)), .val (.int (0 : Int32)), .val (.int (0 : Int32)), .val (.int (0 : Int32)), .unset, .unset] [(.double g0)]))
  refine EndsQ.go (b := T108.setTop (mkF m 42 #[.val (.ref (oo 0)), .val (.int (0 : Int32)), .val (.int (0 : Int32)), .val (.int (0 : Int32)), .val (.int (0 : Int32)), .val (.double g0), .second] [(.ref (oo 0))])) (fun t k => ?_) ?_
  · show Steps p.tables e below (T108.setTop (mkF m 39 #[.val (.ref (oo 0)), .val (.int (0 : Int32)), .val (.int (0 : Int32)), .val (.int (0 : Int32)), .val (.int (0 : Int32)), .unset, .unset] [(.double g0)])) _
    refine XS.dstore X108.here hx rfl (hb hby d11_39) rfl (l' := #[.val (.ref (oo 0)), .val (.int (0 : Int32)), .val (.int (0 : Int32)), .val (.int (0 : Int32)), .val (.int (0 : Int32)), .val (.double g0), .second]) rfl ?_
    refine XS.aloadN X108.here hx rfl (hb hby d11_41) rfl rfl ?_
    exact k
  obtain ⟨T110, X110, e110, st110⟩ := getF X108 hx hZ hown (host := "") (Or.inl (hw _ (List.mem_of_getElem? (i := 19) rfl))) Via.refl e108 SF_arranged (g := (mkF m 42 #[.val (.ref (oo 0)), .val (.int (0 : Int32)), .val (.int (0 : Int32)), .val (.int (0 : Int32)), .val (.int (0 : Int32)), .val (.double g0), .second] [(.ref (oo 0))])) rfl rfl (hb hby d11_42)
  refine EndsQ.go st110 ?_
  show EndsQ _ _ _ _ _ _ _ (T110.setTop (mkF m 45 #[.val (.ref (oo 0)), .val (.int (0 : Int32)), .val (.int (0 : Int32)), .val (.int (0 : Int32)), .val (.int (0 : Int32)), .val (.double g0), .second] [(.ref (oo 5))]))
  refine EndsQ.go (b := T110.setTop (mkF m 47 #[.val (.ref (oo 0)), .val (.int (0 : Int32)), .val (.int (0 : Int32)), .val (.int (0 : Int32)), .val (.int (0 : Int32)), .val (.double g0), .second] [(.ref (oo 0)), (.int (0 : Int32)), (.ref (oo 5))])) (fun t k => ?_) ?_
  · show Steps p.tables e below (T110.setTop (mkF m 45 #[.val (.ref (oo 0)), .val (.int (0 : Int32)), .val (.int (0 : Int32)), .val (.int (0 : Int32)), .val (.int (0 : Int32)), .val (.double g0), .second] [(.ref (oo 5))])) _
    refine XS.iloadN X110.here hx rfl (hb hby d11_45) rfl ?_
    refine XS.aloadN X110.here hx rfl (hb hby d11_46) rfl rfl ?_
    show Steps p.tables e below (T110.setTop (mkF m 47 #[.val (.ref (oo 0)), .val (.int (0 : Int32)), .val (.int (0 : Int32)), .val (.int (0 : Int32)), .val (.int (0 : Int32)), .val (.double g0), .second] [(.ref (oo 0)), (.int (0 : Int32)), (.ref (oo 5))])) _
    exact k
  obtain ⟨T111, X111, e111, st111⟩ := getF X110 hx hZ hown (host := "") (Or.inl (hw _ (List.mem_of_getElem? (i := 19) rfl))) Via.refl e110 SF_arranged (g := (mkF m 47 #[.val (.ref (oo 0)), .val (.int (0 : Int32)), .val (.int (0 : Int32)), .val (.int (0 : Int32)), .val (.int (0 : Int32)), .val (.double g0), .second] [(.ref (oo 0)), (.int (0 : Int32)), (.ref (oo 5))])) rfl rfl (hb hby d11_47)
  refine EndsQ.go st111 ?_
  show EndsQ _ _ _ _ _ _ _ (T111.setTop (mkF m 50 #[.val (.ref (oo 0)), .val (.int (0 : Int32)), .val (.int (0 : Int32)), .val (.int (0 : Int32)), .val (.int (0 : Int32)), .val (.double g0), .second] [(.ref (oo 5)), (.int (0 : Int32)), (.ref (oo 5))]))
  refine EndsQ.go (b := T111.setTop (mkF m 54 #[.val (.ref (oo 0)), .val (.int (0 : Int32)), .val (.int (0 : Int32)), .val (.int (0 : Int32)), .val (.int (0 : Int32)), .val (.double g0), .second] [(.int (0 : Int32)), (.ref (oo 5)), (.int (0 : Int32)), (.ref (oo 5))])) (fun t k => ?_) ?_
  · show Steps p.tables e below (T111.setTop (mkF m 50 #[.val (.ref (oo 0)), .val (.int (0 : Int32)), .val (.int (0 : Int32)), .val (.int (0 : Int32)), .val (.int (0 : Int32)), .val (.double g0), .second] [(.ref (oo 5)), (.int (0 : Int32)), (.ref (oo 5))])) _
    refine XS.iloadN X111.here hx rfl (hb hby d11_50) rfl ?_
    refine XS.iload X111.here hx rfl (hb hby d11_51) rfl ?_
    refine XS.iadd X111.here hx rfl (hb hby d11_53) rfl ?_
    show Steps p.tables e below (T111.setTop (mkF m 54 #[.val (.ref (oo 0)), .val (.int (0 : Int32)), .val (.int (0 : Int32)), .val (.int (0 : Int32)), .val (.int (0 : Int32)), .val (.double g0), .second] [(.int ((0 : Int32) + (0 : Int32))), (.ref (oo 5)), (.int (0 : Int32)), (.ref (oo 5))])) _
    rw [(by decide : ((0 : Int32) + (0 : Int32)) = (0 : Int32))]
    show Steps p.tables e below (T111.setTop (mkF m 54 #[.val (.ref (oo 0)), .val (.int (0 : Int32)), .val (.int (0 : Int32)), .val (.int (0 : Int32)), .val (.int (0 : Int32)), .val (.double g0), .second] [(.int (0 : Int32)), (.ref (oo 5)), (.int (0 : Int32)), (.ref (oo 5))])) _
    exact k
  obtain ⟨cl112, Ar112, q112, S112, M112, H112, G112⟩ := id SA_5
  have hin112 : ¬ ((0 : Int32) < 0 ∨ cl112.slots.size ≤ ((0 : Int32)).toNatClampNeg) := inb_of S112 ⟨by decide, by decide⟩
  have hat112 : cl112.slots[((0 : Int32)).toNatClampNeg]? = some (.double g0) := Has.at H112 hin112 rfl
  refine EndsQ.go (fun t k => X111.daload hx (j := (0 : Int32)) (v := (.double g0)) (by rw [e111]; exact Ar112.1) (State.isArrayOf_alike hZ.alike Ar112.2.1) Ar112.2.2 hin112 hat112 (g := (mkF m 54 #[.val (.ref (oo 0)), .val (.int (0 : Int32)), .val (.int (0 : Int32)), .val (.int (0 : Int32)), .val (.int (0 : Int32)), .val (.double g0), .second] [(.int (0 : Int32)), (.ref (oo 5)), (.int (0 : Int32)), (.ref (oo 5))])) rfl rfl (hb hby d11_54) _ k) ?_
  show EndsQ _ _ _ _ _ _ _ (T111.setTop (mkF m 55 #[.val (.ref (oo 0)), .val (.int (0 : Int32)), .val (.int (0 : Int32)), .val (.int (0 : Int32)), .val (.int (0 : Int32)), .val (.double g0), .second] [(.double g0), (.int (0 : Int32)), (.ref (oo 5))]))
  obtain ⟨cl113, Ar113, q113, S113, M113, H113, G113⟩ := id SA_5
  have hin113 : ¬ ((0 : Int32) < 0 ∨ cl113.slots.size ≤ ((0 : Int32)).toNatClampNeg) := inb_of S113 ⟨by decide, by decide⟩
  obtain ⟨T113, h113, X113, e113, W113, st113⟩ := stD X111 hx hZ e111 Ar113 (j := (0 : Int32)) hin113 (g := (mkF m 55 #[.val (.ref (oo 0)), .val (.int (0 : Int32)), .val (.int (0 : Int32)), .val (.int (0 : Int32)), .val (.int (0 : Int32)), .val (.double g0), .second] [(.double g0), (.int (0 : Int32)), (.ref (oo 5))])) rfl rfl (hb hby d11_55)
  have fa113 : Arv Z h113 (oo 5) (kk 5) .double (64 : Int32) [(.double g0), (.double g1), (.double g2)] (.double (0 : UInt64)) := Arv.set Ar113 q113 S113 M113 H113 G113 rfl W113 0 rfl (Nat.le_of_ble_eq_true rfl)
  have f114 := SE.wr W113
  have f115 := SF_candidates.other W113 (Or.inl (hne 0 5 (by decide) (by decide) (by decide)))
  have f116 := SF_proposed.other W113 (Or.inl (hne 0 5 (by decide) (by decide) (by decide)))
  have f117 := SF_confidences.other W113 (Or.inl (hne 0 5 (by decide) (by decide) (by decide)))
  have f118 := SF_starts.other W113 (Or.inl (hne 0 5 (by decide) (by decide) (by decide)))
  have f119 := SF_arranged.other W113 (Or.inl (hne 0 5 (by decide) (by decide) (by decide)))
  have f120 := SF_taken.other W113 (Or.inl (hne 0 5 (by decide) (by decide) (by decide)))
  have f121 := SF_indices.other W113 (Or.inl (hne 0 5 (by decide) (by decide) (by decide)))
  have f122 := SF_cnt.other W113 (Or.inl (hne 0 5 (by decide) (by decide) (by decide)))
  have f123 := SF_sz.other W113 (Or.inl (hne 0 5 (by decide) (by decide) (by decide)))
  have f124 := SA_1.other W113 (hne 1 5 (by decide) (by decide) (by decide))
  have f125 := SA_2.other W113 (hne 2 5 (by decide) (by decide) (by decide))
  have f126 := SA_3.other W113 (hne 3 5 (by decide) (by decide) (by decide))
  have f127 := SA_4.other W113 (hne 4 5 (by decide) (by decide) (by decide))
  have f128 := SA_6.other W113 (hne 6 5 (by decide) (by decide) (by decide))
  have f129 := SA_7.other W113 (hne 7 5 (by decide) (by decide) (by decide))
  have f130 := Nat.le_trans Z0 (Keep.of_wr W113).1
  have N113 := Fr.snoc X113 N105 (hn 5 (by decide))
  refine EndsQ.go st113 ?_
  show EndsQ _ _ _ _ _ _ _ (T113.setTop (mkF m 56 #[.val (.ref (oo 0)), .val (.int (0 : Int32)), .val (.int (0 : Int32)), .val (.int (0 : Int32)), .val (.int (0 : Int32)), .val (.double g0), .second] []))
  refine EndsQ.go (b := T113.setTop (mkF m 57 #[.val (.ref (oo 0)), .val (.int (0 : Int32)), .val (.int (0 : Int32)), .val (.int (0 : Int32)), .val (.int (0 : Int32)), .val (.double g0), .second] [(.ref (oo 0))])) (fun t k => ?_) ?_
  · show Steps p.tables e below (T113.setTop (mkF m 56 #[.val (.ref (oo 0)), .val (.int (0 : Int32)), .val (.int (0 : Int32)), .val (.int (0 : Int32)), .val (.int (0 : Int32)), .val (.double g0), .second] [])) _
    refine XS.aloadN X113.here hx rfl (hb hby d11_56) rfl rfl ?_
    show Steps p.tables e below (T113.setTop (mkF m 57 #[.val (.ref (oo 0)), .val (.int (0 : Int32)), .val (.int (0 : Int32)), .val (.int (0 : Int32)), .val (.int (0 : Int32)), .val (.double g0), .second] [(.ref (oo 0))])) _
    exact k
  obtain ⟨T131, X131, e131, st131⟩ := getF X113 hx hZ hown (host := "") (Or.inl (hw _ (List.mem_of_getElem? (i := 19) rfl))) Via.refl e113 f119 (g := (mkF m 57 #[.val (.ref (oo 0)), .val (.int (0 : Int32)), .val (.int (0 : Int32)), .val (.int (0 : Int32)), .val (.int (0 : Int32)), .val (.double g0), .second] [(.ref (oo 0))])) rfl rfl (hb hby d11_57)
  refine EndsQ.go st131 ?_
  show EndsQ _ _ _ _ _ _ _ (T131.setTop (mkF m 60 #[.val (.ref (oo 0)), .val (.int (0 : Int32)), .val (.int (0 : Int32)), .val (.int (0 : Int32)), .val (.int (0 : Int32)), .val (.double g0), .second] [(.ref (oo 5))]))
  refine EndsQ.go (b := T131.setTop (mkF m 66 #[.val (.ref (oo 0)), .val (.int (0 : Int32)), .val (.int (0 : Int32)), .val (.int (0 : Int32)), .val (.int (0 : Int32)), .val (.double g0), .second] [(.double g0), (.int (0 : Int32)), (.ref (oo 5))])) (fun t k => ?_) ?_
  · show Steps p.tables e below (T131.setTop (mkF m 60 #[.val (.ref (oo 0)), .val (.int (0 : Int32)), .val (.int (0 : Int32)), .val (.int (0 : Int32)), .val (.int (0 : Int32)), .val (.double g0), .second] [(.ref (oo 5))])) _
    refine XS.iloadN X131.here hx rfl (hb hby d11_60) rfl ?_
    refine XS.iload X131.here hx rfl (hb hby d11_61) rfl ?_
    refine XS.iadd X131.here hx rfl (hb hby d11_63) rfl ?_
    show Steps p.tables e below (T131.setTop (mkF m 64 #[.val (.ref (oo 0)), .val (.int (0 : Int32)), .val (.int (0 : Int32)), .val (.int (0 : Int32)), .val (.int (0 : Int32)), .val (.double g0), .second] [(.int ((0 : Int32) + (0 : Int32))), (.ref (oo 5))])) _
    rw [(by decide : ((0 : Int32) + (0 : Int32)) = (0 : Int32))]
    show Steps p.tables e below (T131.setTop (mkF m 64 #[.val (.ref (oo 0)), .val (.int (0 : Int32)), .val (.int (0 : Int32)), .val (.int (0 : Int32)), .val (.int (0 : Int32)), .val (.double g0), .second] [(.int (0 : Int32)), (.ref (oo 5))])) _
    refine XS.dload X131.here hx rfl (hb hby d11_64) rfl ?_
    show Steps p.tables e below (T131.setTop (mkF m 66 #[.val (.ref (oo 0)), .val (.int (0 : Int32)), .val (.int (0 : Int32)), .val (.int (0 : Int32)), .val (.int (0 : Int32)), .val (.double g0), .second] [(.double g0), (.int (0 : Int32)), (.ref (oo 5))])) _
    exact k
  obtain ⟨cl132, Ar132, q132, S132, M132, H132, G132⟩ := id fa113
  have hin132 : ¬ ((0 : Int32) < 0 ∨ cl132.slots.size ≤ ((0 : Int32)).toNatClampNeg) := inb_of S132 ⟨by decide, by decide⟩
  obtain ⟨T132, h132, X132, e132, W132, st132⟩ := stD X131 hx hZ e131 Ar132 (j := (0 : Int32)) hin132 (g := (mkF m 66 #[.val (.ref (oo 0)), .val (.int (0 : Int32)), .val (.int (0 : Int32)), .val (.int (0 : Int32)), .val (.int (0 : Int32)), .val (.double g0), .second] [(.double g0), (.int (0 : Int32)), (.ref (oo 5))])) rfl rfl (hb hby d11_66)
  have fa132 : Arv Z h132 (oo 5) (kk 5) .double (64 : Int32) [(.double g0), (.double g1), (.double g2)] (.double (0 : UInt64)) := Arv.set Ar132 q132 S132 M132 H132 G132 rfl W132 0 rfl (Nat.le_of_ble_eq_true rfl)
  have f133 := f114.wr W132
  have f134 := f115.other W132 (Or.inl (hne 0 5 (by decide) (by decide) (by decide)))
  have f135 := f116.other W132 (Or.inl (hne 0 5 (by decide) (by decide) (by decide)))
  have f136 := f117.other W132 (Or.inl (hne 0 5 (by decide) (by decide) (by decide)))
  have f137 := f118.other W132 (Or.inl (hne 0 5 (by decide) (by decide) (by decide)))
  have f138 := f119.other W132 (Or.inl (hne 0 5 (by decide) (by decide) (by decide)))
  have f139 := f120.other W132 (Or.inl (hne 0 5 (by decide) (by decide) (by decide)))
  have f140 := f121.other W132 (Or.inl (hne 0 5 (by decide) (by decide) (by decide)))
  have f141 := f122.other W132 (Or.inl (hne 0 5 (by decide) (by decide) (by decide)))
  have f142 := f123.other W132 (Or.inl (hne 0 5 (by decide) (by decide) (by decide)))
  have f143 := f124.other W132 (hne 1 5 (by decide) (by decide) (by decide))
  have f144 := f125.other W132 (hne 2 5 (by decide) (by decide) (by decide))
  have f145 := f126.other W132 (hne 3 5 (by decide) (by decide) (by decide))
  have f146 := f127.other W132 (hne 4 5 (by decide) (by decide) (by decide))
  have f147 := f128.other W132 (hne 6 5 (by decide) (by decide) (by decide))
  have f148 := f129.other W132 (hne 7 5 (by decide) (by decide) (by decide))
  have f149 := Nat.le_trans f130 (Keep.of_wr W132).1
  have N132 := Fr.snoc X132 N113 (hn 5 (by decide))
  refine EndsQ.go st132 ?_
  show EndsQ _ _ _ _ _ _ _ (T132.setTop (mkF m 67 #[.val (.ref (oo 0)), .val (.int (0 : Int32)), .val (.int (0 : Int32)), .val (.int (0 : Int32)), .val (.int (0 : Int32)), .val (.double g0), .second] []))
  refine EndsQ.go (b := T132.setTop (mkF m 72 #[.val (.ref (oo 0)), .val (.int (0 : Int32)), .val (.int (0 : Int32)), .val (.int (0 : Int32)), .val (.int (0 : Int32)), .val (.double g0), .second] [(.int (0 : Int32)), (.int (0 : Int32)), (.int (0 : Int32)), (.ref (oo 0))])) (fun t k => ?_) ?_
  · show Steps p.tables e below (T132.setTop (mkF m 67 #[.val (.ref (oo 0)), .val (.int (0 : Int32)), .val (.int (0 : Int32)), .val (.int (0 : Int32)), .val (.int (0 : Int32)), .val (.double g0), .second] [])) _
    refine XS.aloadN X132.here hx rfl (hb hby d11_67) rfl rfl ?_
    refine XS.iloadN X132.here hx rfl (hb hby d11_68) rfl ?_
    refine XS.iconst X132.here hx rfl (hb hby d11_69) ?_
    refine XS.iload X132.here hx rfl (hb hby d11_70) rfl ?_
    show Steps p.tables e below (T132.setTop (mkF m 72 #[.val (.ref (oo 0)), .val (.int (0 : Int32)), .val (.int (0 : Int32)), .val (.int (0 : Int32)), .val (.int (0 : Int32)), .val (.double g0), .second] [(.int (0 : Int32)), (.int (0 : Int32)), (.int (0 : Int32)), (.ref (oo 0))])) _
    exact k
  obtain ⟨cq150, kq150, qa150, qb150, qc150⟩ := isOf hZ e132 f133
  obtain ⟨cp150, qp150, qp150'⟩ := Exa.cell f133
  obtain ⟨ic150, ik150, i1150, i2150, -, i4150, -⟩ := Cond.instantiable_spec (mvT (args := #[]) hZ (hw _ (List.mem_of_getElem? (i := 1) rfl)))
  have hpv150 := Cond.privateMethod_at (mvP hZ (hw _ (List.mem_of_getElem? (i := 78) rfl)) (args := #[]))
  obtain ⟨_, _, ⟨T150, L150, kk150, nn150⟩, -, X150, ⟨Lc150, hQ150, l150, y150, z150⟩, st150⟩ := X132.privateBack hx (y := (⟨"com/example/physarum/physarum/Proposals", "siftDown", "(III)V"⟩ : MethodName)) hown (mvT hZ (hw _ (List.mem_of_getElem? (i := 76) rfl))) (mvT hZ (hw _ (List.mem_of_getElem? (i := 77) rfl))) (Jvm.Stand.selects_self_of_private i1150 i2150 (Bool.or_eq_false_iff.mp i4150).1 hpv150 (mvT hZ (hw _ (List.mem_of_getElem? (i := 77) rfl))) (by decide)) hpv150 (mvT hZ (hw _ (List.mem_of_getElem? (i := 79) rfl))) (by decide) (backOf (W := 0) (rmSift0 l Z a0 hw [] oo kk c0 c1 c2 r0 r1 r2 d0 d1 d2 (0 : Int32) (1 : Int32) s2 g0 g1 g2 (0 : Int32) t1 t2 vx cnt sz h132 n0 f149 hne hn ⟨f133, f134, f135, f136, f137, f138, f139, f140, f141, f142, f143, f144, f145, f146, fa132, f147, f148⟩ ) hZ (hw _ (List.mem_of_getElem? (i := 79) rfl)) (hw _ (List.mem_of_getElem? (i := 2) rfl)) (by decide) (by decide)) (g := (mkF m 72 #[.val (.ref (oo 0)), .val (.int (0 : Int32)), .val (.int (0 : Int32)), .val (.int (0 : Int32)), .val (.int (0 : Int32)), .val (.double g0), .second] [(.int (0 : Int32)), (.int (0 : Int32)), (.int (0 : Int32)), (.ref (oo 0))])) rfl (by rw [hml]; rfl) (Steps.refl _) (a := (oo 0)) (by rw [e132]; exact qp150) qp150' (argsL := [(.int (0 : Int32)), (.int (0 : Int32)), (.int (0 : Int32))]) (rest := []) (lenOf pd_2 rfl) rfl (by show 2 * 0 + _ ≤ _; exact Nat.le_of_eq rfl) (hb hby d11_72) (fun _ _ => ⟨rfl, e132, (by decide : 0 + 0 ≤ _), (by decide : 0 + 0 ≤ _)⟩)
  dsimp only [Pt.U, Pt.locs, Pt.cells, Pt.slots] at X150 l150 y150 z150 st150 hQ150
  subst l150 y150 z150
  obtain ⟨rfl, Nq150, hz150, HS150⟩ := hQ150
  have N150 := Fr.app N132 Nq150
  obtain ⟨SE_150, SF_candidates_150, SF_proposed_150, SF_confidences_150, SF_starts_150, SF_arranged_150, SF_taken_150, SF_indices_150, SF_cnt_150, SF_sz_150, SA_1_150, SA_2_150, SA_3_150, SA_4_150, SA_5_150, SA_6_150, SA_7_150⟩ := HS150
  refine EndsQ.go (fun t k => st150.trans k) ?_
  show EndsQ _ _ _ _ _ _ _ (T150.setTop (mkF m 75 #[.val (.ref (oo 0)), .val (.int (0 : Int32)), .val (.int (0 : Int32)), .val (.int (0 : Int32)), .val (.int (0 : Int32)), .val (.double g0), .second] []))
  refine EndsQ.go (b := T150.setTop (mkF m 76 #[.val (.ref (oo 0)), .val (.int (0 : Int32)), .val (.int (0 : Int32)), .val (.int (0 : Int32)), .val (.int (0 : Int32)), .val (.double g0), .second] [(.ref (oo 0))])) (fun t k => ?_) ?_
  · show Steps p.tables e below (T150.setTop (mkF m 75 #[.val (.ref (oo 0)), .val (.int (0 : Int32)), .val (.int (0 : Int32)), .val (.int (0 : Int32)), .val (.int (0 : Int32)), .val (.double g0), .second] [])) _
    refine XS.aloadN X150.here hx rfl (hb hby d11_75) rfl rfl ?_
    exact k
  obtain ⟨T151, X151, e151, st151⟩ := getF X150 hx hZ hown (host := "") (Or.inl (hw _ (List.mem_of_getElem? (i := 21) rfl))) Via.refl rfl SF_taken_150 (g := (mkF m 76 #[.val (.ref (oo 0)), .val (.int (0 : Int32)), .val (.int (0 : Int32)), .val (.int (0 : Int32)), .val (.int (0 : Int32)), .val (.double g0), .second] [(.ref (oo 0))])) rfl rfl (hb hby d11_76)
  refine EndsQ.go st151 ?_
  show EndsQ _ _ _ _ _ _ _ (T151.setTop (mkF m 79 #[.val (.ref (oo 0)), .val (.int (0 : Int32)), .val (.int (0 : Int32)), .val (.int (0 : Int32)), .val (.int (0 : Int32)), .val (.double g0), .second] [(.ref (oo 6))]))
  refine EndsQ.go (b := T151.setTop (mkF m 81 #[.val (.ref (oo 0)), .val (.int (0 : Int32)), .val (.int (0 : Int32)), .val (.int (0 : Int32)), .val (.int (0 : Int32)), .val (.double g0), .second] [(.int (0 : Int32)), (.ref (oo 6)), (.int (0 : Int32)), (.ref (oo 6))])) (fun t k => ?_) ?_
  · show Steps p.tables e below (T151.setTop (mkF m 79 #[.val (.ref (oo 0)), .val (.int (0 : Int32)), .val (.int (0 : Int32)), .val (.int (0 : Int32)), .val (.int (0 : Int32)), .val (.double g0), .second] [(.ref (oo 6))])) _
    refine XS.iloadN X151.here hx rfl (hb hby d11_79) rfl ?_
    refine Jvm.Free.XT.dup2 X151.here hx rfl (hb hby d11_80) rfl rfl rfl ?_
    exact k
  obtain ⟨cl152, Ar152, q152, S152, M152, H152, G152⟩ := id SA_6_150
  have hin152 : ¬ ((0 : Int32) < 0 ∨ cl152.slots.size ≤ ((0 : Int32)).toNatClampNeg) := inb_of S152 ⟨by decide, by decide⟩
  have hat152 : cl152.slots[((0 : Int32)).toNatClampNeg]? = some (.int (0 : Int32)) := Has.at H152 hin152 rfl
  refine EndsQ.go (fun t k => X151.iaload hx (j := (0 : Int32)) (v := (.int (0 : Int32))) (by rw [e151]; exact Ar152.1) (State.isArrayOf_alike hZ.alike Ar152.2.1) Ar152.2.2 hin152 hat152 (g := (mkF m 81 #[.val (.ref (oo 0)), .val (.int (0 : Int32)), .val (.int (0 : Int32)), .val (.int (0 : Int32)), .val (.int (0 : Int32)), .val (.double g0), .second] [(.int (0 : Int32)), (.ref (oo 6)), (.int (0 : Int32)), (.ref (oo 6))])) rfl rfl (hb hby d11_81) _ k) ?_
  show EndsQ _ _ _ _ _ _ _ (T151.setTop (mkF m 82 #[.val (.ref (oo 0)), .val (.int (0 : Int32)), .val (.int (0 : Int32)), .val (.int (0 : Int32)), .val (.int (0 : Int32)), .val (.double g0), .second] [(.int (0 : Int32)), (.int (0 : Int32)), (.ref (oo 6))]))
  refine EndsQ.go (b := T151.setTop (mkF m 84 #[.val (.ref (oo 0)), .val (.int (0 : Int32)), .val (.int (0 : Int32)), .val (.int (0 : Int32)), .val (.int (0 : Int32)), .val (.double g0), .second] [(.int (1 : Int32)), (.int (0 : Int32)), (.ref (oo 6))])) (fun t k => ?_) ?_
  · show Steps p.tables e below (T151.setTop (mkF m 82 #[.val (.ref (oo 0)), .val (.int (0 : Int32)), .val (.int (0 : Int32)), .val (.int (0 : Int32)), .val (.int (0 : Int32)), .val (.double g0), .second] [(.int (0 : Int32)), (.int (0 : Int32)), (.ref (oo 6))])) _
    refine XS.iconst X151.here hx rfl (hb hby d11_82) ?_
    show Steps p.tables e below (T151.setTop (mkF m 83 #[.val (.ref (oo 0)), .val (.int (0 : Int32)), .val (.int (0 : Int32)), .val (.int (0 : Int32)), .val (.int (0 : Int32)), .val (.double g0), .second] [(.int (1 : Int32)), (.int (0 : Int32)), (.int (0 : Int32)), (.ref (oo 6))])) _
    refine XS.iadd X151.here hx rfl (hb hby d11_83) rfl ?_
    show Steps p.tables e below (T151.setTop (mkF m 84 #[.val (.ref (oo 0)), .val (.int (0 : Int32)), .val (.int (0 : Int32)), .val (.int (0 : Int32)), .val (.int (0 : Int32)), .val (.double g0), .second] [(.int ((0 : Int32) + (1 : Int32))), (.int (0 : Int32)), (.ref (oo 6))])) _
    rw [(by decide : ((0 : Int32) + (1 : Int32)) = (1 : Int32))]
    show Steps p.tables e below (T151.setTop (mkF m 84 #[.val (.ref (oo 0)), .val (.int (0 : Int32)), .val (.int (0 : Int32)), .val (.int (0 : Int32)), .val (.int (0 : Int32)), .val (.double g0), .second] [(.int (1 : Int32)), (.int (0 : Int32)), (.ref (oo 6))])) _
    exact k
  obtain ⟨cl153, Ar153, q153, S153, M153, H153, G153⟩ := id SA_6_150
  have hin153 : ¬ ((0 : Int32) < 0 ∨ cl153.slots.size ≤ ((0 : Int32)).toNatClampNeg) := inb_of S153 ⟨by decide, by decide⟩
  obtain ⟨T153, h153, X153, e153, W153, st153⟩ := stI X151 hx hZ e151 Ar153 (j := (0 : Int32)) hin153 (g := (mkF m 84 #[.val (.ref (oo 0)), .val (.int (0 : Int32)), .val (.int (0 : Int32)), .val (.int (0 : Int32)), .val (.int (0 : Int32)), .val (.double g0), .second] [(.int (1 : Int32)), (.int (0 : Int32)), (.ref (oo 6))])) rfl rfl (hb hby d11_84)
  have fa153 : Arv Z h153 (oo 6) (kk 6) .int (16 : Int32) [(.int (1 : Int32)), (.int t1), (.int t2)] (.int (0 : Int32)) := Arv.set Ar153 q153 S153 M153 H153 G153 rfl W153 0 rfl (Nat.le_of_ble_eq_true rfl)
  have f154 := Nat.le_trans hz150 (Keep.of_wr W153).1
  have f155 := SE_150.wr W153
  have f156 := SF_candidates_150.other W153 (Or.inl (hne 0 6 (by decide) (by decide) (by decide)))
  have f157 := SF_proposed_150.other W153 (Or.inl (hne 0 6 (by decide) (by decide) (by decide)))
  have f158 := SF_confidences_150.other W153 (Or.inl (hne 0 6 (by decide) (by decide) (by decide)))
  have f159 := SF_starts_150.other W153 (Or.inl (hne 0 6 (by decide) (by decide) (by decide)))
  have f160 := SF_arranged_150.other W153 (Or.inl (hne 0 6 (by decide) (by decide) (by decide)))
  have f161 := SF_taken_150.other W153 (Or.inl (hne 0 6 (by decide) (by decide) (by decide)))
  have f162 := SF_indices_150.other W153 (Or.inl (hne 0 6 (by decide) (by decide) (by decide)))
  have f163 := SF_cnt_150.other W153 (Or.inl (hne 0 6 (by decide) (by decide) (by decide)))
  have f164 := SF_sz_150.other W153 (Or.inl (hne 0 6 (by decide) (by decide) (by decide)))
  have f165 := SA_1_150.other W153 (hne 1 6 (by decide) (by decide) (by decide))
  have f166 := SA_2_150.other W153 (hne 2 6 (by decide) (by decide) (by decide))
  have f167 := SA_3_150.other W153 (hne 3 6 (by decide) (by decide) (by decide))
  have f168 := SA_4_150.other W153 (hne 4 6 (by decide) (by decide) (by decide))
  have f169 := SA_5_150.other W153 (hne 5 6 (by decide) (by decide) (by decide))
  have f170 := SA_7_150.other W153 (hne 7 6 (by decide) (by decide) (by decide))
  have N153 := Fr.snoc X153 N150 (hn 6 (by decide))
  refine EndsQ.go st153 ?_
  show EndsQ _ _ _ _ _ _ _ (T153.setTop (mkF m 85 #[.val (.ref (oo 0)), .val (.int (0 : Int32)), .val (.int (0 : Int32)), .val (.int (0 : Int32)), .val (.int (0 : Int32)), .val (.double g0), .second] []))
  refine EndsQ.go (b := T153.setTop (mkF m 8 #[.val (.ref (oo 0)), .val (.int (0 : Int32)), .val (.int (0 : Int32)), .val (.int (0 : Int32)), .val (.int (0 : Int32)), .val (.double g0), .second] [(.ref (oo 0))])) (fun t k => ?_) ?_
  · show Steps p.tables e below (T153.setTop (mkF m 85 #[.val (.ref (oo 0)), .val (.int (0 : Int32)), .val (.int (0 : Int32)), .val (.int (0 : Int32)), .val (.int (0 : Int32)), .val (.double g0), .second] [])) _
    refine XS.goto X153.here hx rfl (pc0 := 85) (pc' := 7) rfl (hb hby d11_85) (by decide) (by decide) ?_
    refine XS.aloadN X153.here hx rfl (hb hby d11_7) rfl rfl ?_
    exact k
  obtain ⟨T171, X171, e171, st171⟩ := getF X153 hx hZ hown (host := "") (Or.inl (hw _ (List.mem_of_getElem? (i := 21) rfl))) Via.refl e153 f161 (g := (mkF m 8 #[.val (.ref (oo 0)), .val (.int (0 : Int32)), .val (.int (0 : Int32)), .val (.int (0 : Int32)), .val (.int (0 : Int32)), .val (.double g0), .second] [(.ref (oo 0))])) rfl rfl (hb hby d11_8)
  refine EndsQ.go st171 ?_
  show EndsQ _ _ _ _ _ _ _ (T171.setTop (mkF m 11 #[.val (.ref (oo 0)), .val (.int (0 : Int32)), .val (.int (0 : Int32)), .val (.int (0 : Int32)), .val (.int (0 : Int32)), .val (.double g0), .second] [(.ref (oo 6))]))
  refine EndsQ.go (b := T171.setTop (mkF m 12 #[.val (.ref (oo 0)), .val (.int (0 : Int32)), .val (.int (0 : Int32)), .val (.int (0 : Int32)), .val (.int (0 : Int32)), .val (.double g0), .second] [(.int (0 : Int32)), (.ref (oo 6))])) (fun t k => ?_) ?_
  · show Steps p.tables e below (T171.setTop (mkF m 11 #[.val (.ref (oo 0)), .val (.int (0 : Int32)), .val (.int (0 : Int32)), .val (.int (0 : Int32)), .val (.int (0 : Int32)), .val (.double g0), .second] [(.ref (oo 6))])) _
    refine XS.iloadN X171.here hx rfl (hb hby d11_11) rfl ?_
    show Steps p.tables e below (T171.setTop (mkF m 12 #[.val (.ref (oo 0)), .val (.int (0 : Int32)), .val (.int (0 : Int32)), .val (.int (0 : Int32)), .val (.int (0 : Int32)), .val (.double g0), .second] [(.int (0 : Int32)), (.ref (oo 6))])) _
    exact k
  obtain ⟨cl172, Ar172, q172, S172, M172, H172, G172⟩ := id fa153
  have hin172 : ¬ ((0 : Int32) < 0 ∨ cl172.slots.size ≤ ((0 : Int32)).toNatClampNeg) := inb_of S172 ⟨by decide, by decide⟩
  have hat172 : cl172.slots[((0 : Int32)).toNatClampNeg]? = some (.int (1 : Int32)) := Has.at H172 hin172 rfl
  refine EndsQ.go (fun t k => X171.iaload hx (j := (0 : Int32)) (v := (.int (1 : Int32))) (by rw [e171]; exact Ar172.1) (State.isArrayOf_alike hZ.alike Ar172.2.1) Ar172.2.2 hin172 hat172 (g := (mkF m 12 #[.val (.ref (oo 0)), .val (.int (0 : Int32)), .val (.int (0 : Int32)), .val (.int (0 : Int32)), .val (.int (0 : Int32)), .val (.double g0), .second] [(.int (0 : Int32)), (.ref (oo 6))])) rfl rfl (hb hby d11_12) _ k) ?_
  show EndsQ _ _ _ _ _ _ _ (T171.setTop (mkF m 13 #[.val (.ref (oo 0)), .val (.int (0 : Int32)), .val (.int (0 : Int32)), .val (.int (0 : Int32)), .val (.int (0 : Int32)), .val (.double g0), .second] [(.int (1 : Int32))]))
  refine EndsQ.go (b := T171.setTop (mkF m 89 #[.val (.ref (oo 0)), .val (.int (0 : Int32)), .val (.int (0 : Int32)), .val (.int (0 : Int32)), .val (.int (0 : Int32)), .val (.double g0), .second] [(.ref (oo 0))])) (fun t k => ?_) ?_
  · show Steps p.tables e below (T171.setTop (mkF m 13 #[.val (.ref (oo 0)), .val (.int (0 : Int32)), .val (.int (0 : Int32)), .val (.int (0 : Int32)), .val (.int (0 : Int32)), .val (.double g0), .second] [(.int (1 : Int32))])) _
    refine XS.iloadN X171.here hx rfl (hb hby d11_13) rfl ?_
    refine XS.icmpYes X171.here hx rfl (pc0 := 14) (pc' := 88) rfl (hb hby d11_14) rfl (tlt (by decide)).2.2.1 (by decide) (by decide) ?_
    show Steps p.tables e below (T171.setTop (mkF m 88 #[.val (.ref (oo 0)), .val (.int (0 : Int32)), .val (.int (0 : Int32)), .val (.int (0 : Int32)), .val (.int (0 : Int32)), .val (.double g0), .second] [])) _
    refine XS.aloadN X171.here hx rfl (hb hby d11_88) rfl rfl ?_
    exact k
  obtain ⟨T173, X173, e173, st173⟩ := getF X171 hx hZ hown (host := "") (Or.inl (hw _ (List.mem_of_getElem? (i := 19) rfl))) Via.refl e171 f160 (g := (mkF m 89 #[.val (.ref (oo 0)), .val (.int (0 : Int32)), .val (.int (0 : Int32)), .val (.int (0 : Int32)), .val (.int (0 : Int32)), .val (.double g0), .second] [(.ref (oo 0))])) rfl rfl (hb hby d11_89)
  refine EndsQ.go st173 ?_
  show EndsQ _ _ _ _ _ _ _ (T173.setTop (mkF m 92 #[.val (.ref (oo 0)), .val (.int (0 : Int32)), .val (.int (0 : Int32)), .val (.int (0 : Int32)), .val (.int (0 : Int32)), .val (.double g0), .second] [(.ref (oo 5))]))
  refine EndsQ.go (b := T173.setTop (mkF m 93 #[.val (.ref (oo 0)), .val (.int (0 : Int32)), .val (.int (0 : Int32)), .val (.int (0 : Int32)), .val (.int (0 : Int32)), .val (.double g0), .second] [(.ref (oo 0)), (.ref (oo 5))])) (fun t k => ?_) ?_
  · show Steps p.tables e below (T173.setTop (mkF m 92 #[.val (.ref (oo 0)), .val (.int (0 : Int32)), .val (.int (0 : Int32)), .val (.int (0 : Int32)), .val (.int (0 : Int32)), .val (.double g0), .second] [(.ref (oo 5))])) _
    refine XS.aloadN X173.here hx rfl (hb hby d11_92) rfl rfl ?_
    exact k
  obtain ⟨T174, X174, e174, st174⟩ := getF X173 hx hZ hown (host := "") (Or.inl (hw _ (List.mem_of_getElem? (i := 17) rfl))) Via.refl e173 f159 (g := (mkF m 93 #[.val (.ref (oo 0)), .val (.int (0 : Int32)), .val (.int (0 : Int32)), .val (.int (0 : Int32)), .val (.int (0 : Int32)), .val (.double g0), .second] [(.ref (oo 0)), (.ref (oo 5))])) rfl rfl (hb hby d11_93)
  refine EndsQ.go st174 ?_
  show EndsQ _ _ _ _ _ _ _ (T174.setTop (mkF m 96 #[.val (.ref (oo 0)), .val (.int (0 : Int32)), .val (.int (0 : Int32)), .val (.int (0 : Int32)), .val (.int (0 : Int32)), .val (.double g0), .second] [(.ref (oo 4)), (.ref (oo 5))]))
  refine EndsQ.go (b := T174.setTop (mkF m 99 #[.val (.ref (oo 0)), .val (.int (0 : Int32)), .val (.int (0 : Int32)), .val (.int (0 : Int32)), .val (.int (0 : Int32)), .val (.double g0), .second] [(.int (1 : Int32)), (.ref (oo 4)), (.ref (oo 5))])) (fun t k => ?_) ?_
  · show Steps p.tables e below (T174.setTop (mkF m 96 #[.val (.ref (oo 0)), .val (.int (0 : Int32)), .val (.int (0 : Int32)), .val (.int (0 : Int32)), .val (.int (0 : Int32)), .val (.double g0), .second] [(.ref (oo 4)), (.ref (oo 5))])) _
    refine XS.iloadN X174.here hx rfl (hb hby d11_96) rfl ?_
    show Steps p.tables e below (T174.setTop (mkF m 97 #[.val (.ref (oo 0)), .val (.int (0 : Int32)), .val (.int (0 : Int32)), .val (.int (0 : Int32)), .val (.int (0 : Int32)), .val (.double g0), .second] [(.int (0 : Int32)), (.ref (oo 4)), (.ref (oo 5))])) _
    refine XS.iconst X174.here hx rfl (hb hby d11_97) ?_
    refine XS.iadd X174.here hx rfl (hb hby d11_98) rfl ?_
    show Steps p.tables e below (T174.setTop (mkF m 99 #[.val (.ref (oo 0)), .val (.int (0 : Int32)), .val (.int (0 : Int32)), .val (.int (0 : Int32)), .val (.int (0 : Int32)), .val (.double g0), .second] [(.int ((0 : Int32) + (1 : Int32))), (.ref (oo 4)), (.ref (oo 5))])) _
    rw [(by decide : ((0 : Int32) + (1 : Int32)) = (1 : Int32))]
    show Steps p.tables e below (T174.setTop (mkF m 99 #[.val (.ref (oo 0)), .val (.int (0 : Int32)), .val (.int (0 : Int32)), .val (.int (0 : Int32)), .val (.int (0 : Int32)), .val (.double g0), .second] [(.int (1 : Int32)), (.ref (oo 4)), (.ref (oo 5))])) _
    exact k
  obtain ⟨cl175, Ar175, q175, S175, M175, H175, G175⟩ := id f168
  have hin175 : ¬ ((1 : Int32) < 0 ∨ cl175.slots.size ≤ ((1 : Int32)).toNatClampNeg) := inb_of S175 ⟨by decide, by decide⟩
  have hat175 : cl175.slots[((1 : Int32)).toNatClampNeg]? = some (.int (1 : Int32)) := Has.at H175 hin175 rfl
  refine EndsQ.go (fun t k => X174.iaload hx (j := (1 : Int32)) (v := (.int (1 : Int32))) (by rw [e174]; exact Ar175.1) (State.isArrayOf_alike hZ.alike Ar175.2.1) Ar175.2.2 hin175 hat175 (g := (mkF m 99 #[.val (.ref (oo 0)), .val (.int (0 : Int32)), .val (.int (0 : Int32)), .val (.int (0 : Int32)), .val (.int (0 : Int32)), .val (.double g0), .second] [(.int (1 : Int32)), (.ref (oo 4)), (.ref (oo 5))])) rfl rfl (hb hby d11_99) _ k) ?_
  show EndsQ _ _ _ _ _ _ _ (T174.setTop (mkF m 100 #[.val (.ref (oo 0)), .val (.int (0 : Int32)), .val (.int (0 : Int32)), .val (.int (0 : Int32)), .val (.int (0 : Int32)), .val (.double g0), .second] [(.int (1 : Int32)), (.ref (oo 5))]))
  refine EndsQ.go (b := T174.setTop (mkF m 104 #[.val (.ref (oo 0)), .val (.int (0 : Int32)), .val (.int (0 : Int32)), .val (.int (0 : Int32)), .val (.int (0 : Int32)), .val (.double g0), .second] [(.int (0 : Int32)), (.ref (oo 5))])) (fun t k => ?_) ?_
  · show Steps p.tables e below (T174.setTop (mkF m 100 #[.val (.ref (oo 0)), .val (.int (0 : Int32)), .val (.int (0 : Int32)), .val (.int (0 : Int32)), .val (.int (0 : Int32)), .val (.double g0), .second] [(.int (1 : Int32)), (.ref (oo 5))])) _
    refine XS.iconst X174.here hx rfl (hb hby d11_100) ?_
    refine XS.isub X174.here hx rfl (hb hby d11_101) rfl ?_
    show Steps p.tables e below (T174.setTop (mkF m 102 #[.val (.ref (oo 0)), .val (.int (0 : Int32)), .val (.int (0 : Int32)), .val (.int (0 : Int32)), .val (.int (0 : Int32)), .val (.double g0), .second] [(.int ((1 : Int32) - (1 : Int32))), (.ref (oo 5))])) _
    rw [(by decide : ((1 : Int32) - (1 : Int32)) = (0 : Int32))]
    show Steps p.tables e below (T174.setTop (mkF m 102 #[.val (.ref (oo 0)), .val (.int (0 : Int32)), .val (.int (0 : Int32)), .val (.int (0 : Int32)), .val (.int (0 : Int32)), .val (.double g0), .second] [(.int (0 : Int32)), (.ref (oo 5))])) _
    refine XS.iloadN X174.here hx rfl (hb hby d11_102) rfl ?_
    refine XS.isub X174.here hx rfl (hb hby d11_103) rfl ?_
    show Steps p.tables e below (T174.setTop (mkF m 104 #[.val (.ref (oo 0)), .val (.int (0 : Int32)), .val (.int (0 : Int32)), .val (.int (0 : Int32)), .val (.int (0 : Int32)), .val (.double g0), .second] [(.int ((0 : Int32) - (0 : Int32))), (.ref (oo 5))])) _
    rw [(by decide : ((0 : Int32) - (0 : Int32)) = (0 : Int32))]
    show Steps p.tables e below (T174.setTop (mkF m 104 #[.val (.ref (oo 0)), .val (.int (0 : Int32)), .val (.int (0 : Int32)), .val (.int (0 : Int32)), .val (.int (0 : Int32)), .val (.double g0), .second] [(.int (0 : Int32)), (.ref (oo 5))])) _
    exact k
  obtain ⟨cl176, Ar176, q176, S176, M176, H176, G176⟩ := id f169
  have hin176 : ¬ ((0 : Int32) < 0 ∨ cl176.slots.size ≤ ((0 : Int32)).toNatClampNeg) := inb_of S176 ⟨by decide, by decide⟩
  have hat176 : cl176.slots[((0 : Int32)).toNatClampNeg]? = some (.double g0) := Has.at H176 hin176 rfl
  refine EndsQ.go (fun t k => X174.daload hx (j := (0 : Int32)) (v := (.double g0)) (by rw [e174]; exact Ar176.1) (State.isArrayOf_alike hZ.alike Ar176.2.1) Ar176.2.2 hin176 hat176 (g := (mkF m 104 #[.val (.ref (oo 0)), .val (.int (0 : Int32)), .val (.int (0 : Int32)), .val (.int (0 : Int32)), .val (.int (0 : Int32)), .val (.double g0), .second] [(.int (0 : Int32)), (.ref (oo 5))])) rfl rfl (hb hby d11_104) _ k) ?_
  show EndsQ _ _ _ _ _ _ _ (T174.setTop (mkF m 105 #[.val (.ref (oo 0)), .val (.int (0 : Int32)), .val (.int (0 : Int32)), .val (.int (0 : Int32)), .val (.int (0 : Int32)), .val (.double g0), .second] [(.double g0)]))
  refine EndsQ.retD X174 hx Bd.notSynchronized Bd.returns (hb hby d11_105) (by decide) (by decide) ?_
  show QConf2 Z oo kk c0 c1 c2 r0 r1 r2 d0 d1 d2 s2 g0 g1 g2 t1 t2 vx cnt sz h0 n0 (some (.double g0)) T174.heap _
  rw [e174]
  exact ⟨rfl, N153, f154, ⟨f155, f156, f157, f158, f159, f160, f161, f162, f163, f164, f165, f166, f167, f168, f169, fa153, f170⟩⟩
theorem ef_High1 (m : MethodId) (x0 : Addr) (x1 : Int32) : entryFrame m #[(.ref x0), (.int x1)] 2 = mkF m 0 #[.val (.ref x0), .val (.int x1)] [] := by first | (simp [entryFrame, mkF, argsToLocals, Value.category]; done) | rfl
def QHigh1 (Z : State) (oo : Nat → Addr) (kk : Nat → ClassId) (c0 : Int32) (c1 : Int32) (c2 : Int32) (r0 : Int32) (r1 : Int32) (r2 : Int32) (d0 : UInt64) (d1 : UInt64) (d2 : UInt64) (s2 : Int32) (g0 : UInt64) (g1 : UInt64) (g2 : UInt64) (t1 : Int32) (t2 : Int32) (vx : List Value) (cnt : Int32) (sz : Int32) (h0 : Heap) (n0 : Nat) (v : Option Value) (h : Heap) (L : List Loc) : Prop := v = some (.double g0) ∧ Fr n0 L ∧ n0 ≤ h.size ∧ own_St Z h oo kk cnt sz [(.int c0), (.int c1), (.int c2)] [(.int r0), (.int r1), (.int r2)] [(.double d0), (.double d1), (.double d2)] [(.int (0 : Int32)), (.int (2 : Int32)), (.int s2)] [(.double g1), (.double g0), (.double g2)] [(.int (1 : Int32)), (.int t1), (.int t2)] vx
set_option maxRecDepth 65536 in
set_option maxHeartbeats 40000000 in
theorem rmHigh1 (l : Launch) (Z : State) (a0 : Array Value) (hw : ∀ d ∈ tables_1, d.before a0 Z = true) (ws : List Jvm.Cond) (oo : Nat → Addr) (kk : Nat → ClassId) (c0 : Int32) (c1 : Int32) (c2 : Int32) (r0 : Int32) (r1 : Int32) (r2 : Int32) (d0 : UInt64) (d1 : UInt64) (d2 : UInt64) (s2 : Int32) (g0 : UInt64) (g1 : UInt64) (g2 : UInt64) (t1 : Int32) (t2 : Int32) (vx : List Value) (cnt : Int32) (sz : Int32) (h0 : Heap) (n0 : Nat) (Z0 : n0 ≤ h0.size) (hne : own_ne oo) (hn : own_nn n0 oo) (HS : own_St Z h0 oo kk cnt sz [(.int c0), (.int c1), (.int c2)] [(.int r0), (.int r1), (.int r2)] [(.double d0), (.double d1), (.double d2)] [(.int (0 : Int32)), (.int (2 : Int32)), (.int s2)] [(.double g0), (.double g1), (.double g2)] [(.int (0 : Int32)), (.int t1), (.int t2)] vx) :
    MetFree l (⟨"com/example/physarum/physarum/Proposals", "highest", "(I)D"⟩ : MethodName) (head1 (Jvm.Cond.code (⟨"com/example/physarum/physarum/Proposals", "highest", "(I)D"⟩ : MethodName) prog_44_method_8_code 2 (some .double) :: ws) ({ frames := 2, cells := 0, slots := 0, locals := 64 } : Room)) (fun a U => a = #[(.ref (oo 0)), (.int (0 : Int32))] ∧ Z.Warmed39 U.vm ∧ U.heap = h0) (fun _ _ _ _ _ => True) (fun _ U o U' => ∃ v L, o = .returned v ∧ QHigh1 Z oo kk c0 c1 c2 r0 r1 r2 d0 d1 d2 s2 g0 g1 g2 t1 t2 vx cnt sz h0 n0 v U'.heap L ∧ FrameEnd U o U' L ({ frames := 2, cells := 0, slots := 0, locals := 64 } : Room).cells ({ frames := 2, cells := 0, slots := 0, locals := 64 } : Room).slots) := by
  refine MetFree.of_bodySF (plainFor_of_name pn_10) hisR ?_
  intro p e s m args below meth c s₁ Bd hml0 hP hK
  obtain ⟨rfl, hZ, hh⟩ := hP
  have hx := Bd.exec
  have hby := Bd.bytes
  have hml : c.maxLocals = 2 := hml0
  have hown : s.vm.findClass "com/example/physarum/physarum/Proposals" = some m.cls := findClass_of_methodNamed Bd.named
  have hnm := (name_of_methodNamed Bd.named Bd.method).1
  have X0 : Stand p l e ({ frames := 2, cells := 0, slots := 0, locals := 64 } : Room) s m #[(.ref (oo 0)), (.int (0 : Int32))] below meth c s₁ [] 0 0 := Stand.of_body Bd
  have e0 : s₁.heap = h0 := by rw [← hh, Bd.state]; rfl
  have N0 := Fr.nil n0
  show EndsQ p.tables e below s (fun v h L => QHigh1 Z oo kk c0 c1 c2 r0 r1 r2 d0 d1 d2 s2 g0 g1 g2 t1 t2 vx cnt sz h0 n0 v h L) ({ frames := 2, cells := 0, slots := 0, locals := 64 } : Room).cells ({ frames := 2, cells := 0, slots := 0, locals := 64 } : Room).slots _
  refine EndsQ.go (b := s₁.setTop (mkF m 0 #[.val (.ref (oo 0)), .val (.int (0 : Int32))] [])) (fun t k => castTop (ef_High1 m (oo 0) (0 : Int32)) k) ?_
  have HS0 := HS
  obtain ⟨SE, SF_candidates, SF_proposed, SF_confidences, SF_starts, SF_arranged, SF_taken, SF_indices, SF_cnt, SF_sz, SA_1, SA_2, SA_3, SA_4, SA_5, SA_6, SA_7⟩ := HS
  refine EndsQ.go (b := s₁.setTop (mkF m 3 #[.val (.ref (oo 0)), .val (.int (0 : Int32))] [(.int (0 : Int32)), (.int (0 : Int32)), (.ref (oo 0))])) (fun t k => ?_) ?_
  · show Steps p.tables e below (s₁.setTop (mkF m 0 #[.val (.ref (oo 0)), .val (.int (0 : Int32))] [])) _
    refine XS.aloadN X0.here hx rfl (hb hby d10_0) rfl rfl ?_
    refine XS.iloadN X0.here hx rfl (hb hby d10_1) rfl ?_
    refine XS.iconst X0.here hx rfl (hb hby d10_2) ?_
    exact k
  obtain ⟨cq101, kq101, qa101, qb101, qc101⟩ := isOf hZ e0 SE
  obtain ⟨_, _, ⟨T101, L101, kk101, nn101⟩, -, X101, ⟨Lc101, hQ101, l101, y101, z101⟩, st101⟩ := X0.virtualBack hx (y := (⟨"com/example/physarum/physarum/Proposals", "confidence", "(II)D"⟩ : MethodName)) (z := (⟨"com/example/physarum/physarum/Proposals", "confidence", "(II)D"⟩ : MethodName)) hown (mvT hZ (hw _ (List.mem_of_getElem? (i := 71) rfl))) (mvT hZ (hw _ (List.mem_of_getElem? (i := 72) rfl))) (notFace_of_selects (args := #[]) (mvT hZ (hw _ (List.mem_of_getElem? (i := 74) rfl)))) (mvT hZ (hw _ (List.mem_of_getElem? (i := 74) rfl))) (mvT hZ (hw _ (List.mem_of_getElem? (i := 73) rfl))) (by decide) (backOf (W := 0) (rmConf1 l Z a0 hw [] oo kk c0 c1 c2 r0 r1 r2 d0 d1 d2 s2 g0 g1 g2 t1 t2 vx cnt sz h0 n0 Z0 hne hn ⟨SE, SF_candidates, SF_proposed, SF_confidences, SF_starts, SF_arranged, SF_taken, SF_indices, SF_cnt, SF_sz, SA_1, SA_2, SA_3, SA_4, SA_5, SA_6, SA_7⟩ ) hZ (hw _ (List.mem_of_getElem? (i := 75) rfl)) (hw _ (List.mem_of_getElem? (i := 2) rfl)) (by decide) (by decide)) qa101 qc101 (g := (mkF m 3 #[.val (.ref (oo 0)), .val (.int (0 : Int32))] [(.int (0 : Int32)), (.int (0 : Int32)), (.ref (oo 0))])) rfl (by rw [hml]; rfl) (Steps.refl _) (argsL := [(.int (0 : Int32)), (.int (0 : Int32))]) (rest := []) (lenOf pd_3 rfl) rfl (by show 2 * 0 + _ ≤ _; exact Nat.le_of_eq rfl) (hb hby d10_3) (fun _ _ => ⟨rfl, e0, (by decide : 0 + 0 ≤ _), (by decide : 0 + 0 ≤ _)⟩)
  dsimp only [Pt.U, Pt.locs, Pt.cells, Pt.slots] at X101 l101 y101 z101 st101 hQ101
  subst l101 y101 z101
  obtain ⟨rfl, Nq101, hz101, HS101⟩ := hQ101
  have N101 := Fr.app N0 Nq101
  obtain ⟨SE_101, SF_candidates_101, SF_proposed_101, SF_confidences_101, SF_starts_101, SF_arranged_101, SF_taken_101, SF_indices_101, SF_cnt_101, SF_sz_101, SA_1_101, SA_2_101, SA_3_101, SA_4_101, SA_5_101, SA_6_101, SA_7_101⟩ := HS101
  refine EndsQ.go (fun t k => st101.trans k) ?_
  show EndsQ _ _ _ _ _ _ _ (T101.setTop (mkF m 6 #[.val (.ref (oo 0)), .val (.int (0 : Int32))] [(.double g0)]))
  refine EndsQ.retD X101 hx Bd.notSynchronized Bd.returns (hb hby d10_6) (by decide) (by decide) ?_
  show QHigh1 Z oo kk c0 c1 c2 r0 r1 r2 d0 d1 d2 s2 g0 g1 g2 t1 t2 vx cnt sz h0 n0 (some (.double g0)) T101.heap _
  exact ⟨rfl, N101, hz101, ⟨SE_101, SF_candidates_101, SF_proposed_101, SF_confidences_101, SF_starts_101, SF_arranged_101, SF_taken_101, SF_indices_101, SF_cnt_101, SF_sz_101, SA_1_101, SA_2_101, SA_3_101, SA_4_101, SA_5_101, SA_6_101, SA_7_101⟩⟩
theorem ef_High2 (m : MethodId) (x0 : Addr) (x1 : Int32) : entryFrame m #[(.ref x0), (.int x1)] 2 = mkF m 0 #[.val (.ref x0), .val (.int x1)] [] := by first | (simp [entryFrame, mkF, argsToLocals, Value.category]; done) | rfl
def QHigh2 (Z : State) (oo : Nat → Addr) (kk : Nat → ClassId) (c0 : Int32) (c1 : Int32) (c2 : Int32) (r0 : Int32) (r1 : Int32) (r2 : Int32) (d0 : UInt64) (d1 : UInt64) (d2 : UInt64) (s2 : Int32) (g0 : UInt64) (g1 : UInt64) (g2 : UInt64) (t1 : Int32) (t2 : Int32) (vx : List Value) (cnt : Int32) (sz : Int32) (h0 : Heap) (n0 : Nat) (v : Option Value) (h : Heap) (L : List Loc) : Prop := v = some (.double g0) ∧ Fr n0 L ∧ n0 ≤ h.size ∧ own_St Z h oo kk cnt sz [(.int c0), (.int c1), (.int c2)] [(.int r0), (.int r1), (.int r2)] [(.double d0), (.double d1), (.double d2)] [(.int (0 : Int32)), (.int (1 : Int32)), (.int s2)] [(.double g0), (.double g1), (.double g2)] [(.int (1 : Int32)), (.int t1), (.int t2)] vx
set_option maxRecDepth 65536 in
set_option maxHeartbeats 40000000 in
theorem rmHigh2 (l : Launch) (Z : State) (a0 : Array Value) (hw : ∀ d ∈ tables_1, d.before a0 Z = true) (ws : List Jvm.Cond) (oo : Nat → Addr) (kk : Nat → ClassId) (c0 : Int32) (c1 : Int32) (c2 : Int32) (r0 : Int32) (r1 : Int32) (r2 : Int32) (d0 : UInt64) (d1 : UInt64) (d2 : UInt64) (s2 : Int32) (g0 : UInt64) (g1 : UInt64) (g2 : UInt64) (t1 : Int32) (t2 : Int32) (vx : List Value) (cnt : Int32) (sz : Int32) (h0 : Heap) (n0 : Nat) (Z0 : n0 ≤ h0.size) (hne : own_ne oo) (hn : own_nn n0 oo) (HS : own_St Z h0 oo kk cnt sz [(.int c0), (.int c1), (.int c2)] [(.int r0), (.int r1), (.int r2)] [(.double d0), (.double d1), (.double d2)] [(.int (0 : Int32)), (.int (1 : Int32)), (.int s2)] [(.double g0), (.double g1), (.double g2)] [(.int (0 : Int32)), (.int t1), (.int t2)] vx) :
    MetFree l (⟨"com/example/physarum/physarum/Proposals", "highest", "(I)D"⟩ : MethodName) (head1 (Jvm.Cond.code (⟨"com/example/physarum/physarum/Proposals", "highest", "(I)D"⟩ : MethodName) prog_44_method_8_code 2 (some .double) :: ws) ({ frames := 2, cells := 0, slots := 0, locals := 64 } : Room)) (fun a U => a = #[(.ref (oo 0)), (.int (0 : Int32))] ∧ Z.Warmed39 U.vm ∧ U.heap = h0) (fun _ _ _ _ _ => True) (fun _ U o U' => ∃ v L, o = .returned v ∧ QHigh2 Z oo kk c0 c1 c2 r0 r1 r2 d0 d1 d2 s2 g0 g1 g2 t1 t2 vx cnt sz h0 n0 v U'.heap L ∧ FrameEnd U o U' L ({ frames := 2, cells := 0, slots := 0, locals := 64 } : Room).cells ({ frames := 2, cells := 0, slots := 0, locals := 64 } : Room).slots) := by
  refine MetFree.of_bodySF (plainFor_of_name pn_10) hisR ?_
  intro p e s m args below meth c s₁ Bd hml0 hP hK
  obtain ⟨rfl, hZ, hh⟩ := hP
  have hx := Bd.exec
  have hby := Bd.bytes
  have hml : c.maxLocals = 2 := hml0
  have hown : s.vm.findClass "com/example/physarum/physarum/Proposals" = some m.cls := findClass_of_methodNamed Bd.named
  have hnm := (name_of_methodNamed Bd.named Bd.method).1
  have X0 : Stand p l e ({ frames := 2, cells := 0, slots := 0, locals := 64 } : Room) s m #[(.ref (oo 0)), (.int (0 : Int32))] below meth c s₁ [] 0 0 := Stand.of_body Bd
  have e0 : s₁.heap = h0 := by rw [← hh, Bd.state]; rfl
  have N0 := Fr.nil n0
  show EndsQ p.tables e below s (fun v h L => QHigh2 Z oo kk c0 c1 c2 r0 r1 r2 d0 d1 d2 s2 g0 g1 g2 t1 t2 vx cnt sz h0 n0 v h L) ({ frames := 2, cells := 0, slots := 0, locals := 64 } : Room).cells ({ frames := 2, cells := 0, slots := 0, locals := 64 } : Room).slots _
  refine EndsQ.go (b := s₁.setTop (mkF m 0 #[.val (.ref (oo 0)), .val (.int (0 : Int32))] [])) (fun t k => castTop (ef_High2 m (oo 0) (0 : Int32)) k) ?_
  have HS0 := HS
  obtain ⟨SE, SF_candidates, SF_proposed, SF_confidences, SF_starts, SF_arranged, SF_taken, SF_indices, SF_cnt, SF_sz, SA_1, SA_2, SA_3, SA_4, SA_5, SA_6, SA_7⟩ := HS
  refine EndsQ.go (b := s₁.setTop (mkF m 3 #[.val (.ref (oo 0)), .val (.int (0 : Int32))] [(.int (0 : Int32)), (.int (0 : Int32)), (.ref (oo 0))])) (fun t k => ?_) ?_
  · show Steps p.tables e below (s₁.setTop (mkF m 0 #[.val (.ref (oo 0)), .val (.int (0 : Int32))] [])) _
    refine XS.aloadN X0.here hx rfl (hb hby d10_0) rfl rfl ?_
    refine XS.iloadN X0.here hx rfl (hb hby d10_1) rfl ?_
    refine XS.iconst X0.here hx rfl (hb hby d10_2) ?_
    exact k
  obtain ⟨cq101, kq101, qa101, qb101, qc101⟩ := isOf hZ e0 SE
  obtain ⟨_, _, ⟨T101, L101, kk101, nn101⟩, -, X101, ⟨Lc101, hQ101, l101, y101, z101⟩, st101⟩ := X0.virtualBack hx (y := (⟨"com/example/physarum/physarum/Proposals", "confidence", "(II)D"⟩ : MethodName)) (z := (⟨"com/example/physarum/physarum/Proposals", "confidence", "(II)D"⟩ : MethodName)) hown (mvT hZ (hw _ (List.mem_of_getElem? (i := 71) rfl))) (mvT hZ (hw _ (List.mem_of_getElem? (i := 72) rfl))) (notFace_of_selects (args := #[]) (mvT hZ (hw _ (List.mem_of_getElem? (i := 74) rfl)))) (mvT hZ (hw _ (List.mem_of_getElem? (i := 74) rfl))) (mvT hZ (hw _ (List.mem_of_getElem? (i := 73) rfl))) (by decide) (backOf (W := 0) (rmConf2 l Z a0 hw [] oo kk c0 c1 c2 r0 r1 r2 d0 d1 d2 s2 g0 g1 g2 t1 t2 vx cnt sz h0 n0 Z0 hne hn ⟨SE, SF_candidates, SF_proposed, SF_confidences, SF_starts, SF_arranged, SF_taken, SF_indices, SF_cnt, SF_sz, SA_1, SA_2, SA_3, SA_4, SA_5, SA_6, SA_7⟩ ) hZ (hw _ (List.mem_of_getElem? (i := 75) rfl)) (hw _ (List.mem_of_getElem? (i := 2) rfl)) (by decide) (by decide)) qa101 qc101 (g := (mkF m 3 #[.val (.ref (oo 0)), .val (.int (0 : Int32))] [(.int (0 : Int32)), (.int (0 : Int32)), (.ref (oo 0))])) rfl (by rw [hml]; rfl) (Steps.refl _) (argsL := [(.int (0 : Int32)), (.int (0 : Int32))]) (rest := []) (lenOf pd_3 rfl) rfl (by show 2 * 0 + _ ≤ _; exact Nat.le_of_eq rfl) (hb hby d10_3) (fun _ _ => ⟨rfl, e0, (by decide : 0 + 0 ≤ _), (by decide : 0 + 0 ≤ _)⟩)
  dsimp only [Pt.U, Pt.locs, Pt.cells, Pt.slots] at X101 l101 y101 z101 st101 hQ101
  subst l101 y101 z101
  obtain ⟨rfl, Nq101, hz101, HS101⟩ := hQ101
  have N101 := Fr.app N0 Nq101
  obtain ⟨SE_101, SF_candidates_101, SF_proposed_101, SF_confidences_101, SF_starts_101, SF_arranged_101, SF_taken_101, SF_indices_101, SF_cnt_101, SF_sz_101, SA_1_101, SA_2_101, SA_3_101, SA_4_101, SA_5_101, SA_6_101, SA_7_101⟩ := HS101
  refine EndsQ.go (fun t k => st101.trans k) ?_
  show EndsQ _ _ _ _ _ _ _ (T101.setTop (mkF m 6 #[.val (.ref (oo 0)), .val (.int (0 : Int32))] [(.double g0)]))
  refine EndsQ.retD X101 hx Bd.notSynchronized Bd.returns (hb hby d10_6) (by decide) (by decide) ?_
  show QHigh2 Z oo kk c0 c1 c2 r0 r1 r2 d0 d1 d2 s2 g0 g1 g2 t1 t2 vx cnt sz h0 n0 (some (.double g0)) T101.heap _
  exact ⟨rfl, N101, hz101, ⟨SE_101, SF_candidates_101, SF_proposed_101, SF_confidences_101, SF_starts_101, SF_arranged_101, SF_taken_101, SF_indices_101, SF_cnt_101, SF_sz_101, SA_1_101, SA_2_101, SA_3_101, SA_4_101, SA_5_101, SA_6_101, SA_7_101⟩⟩
theorem ef_0 (m : MethodId) (x0 : Int32) (x1 : Int32) (x2 : Int32) (x3 : Int32) (x4 : Int32) : entryFrame m #[(.int x0), (.int x1), (.int x2), (.int x3), (.int x4)] maxLocals = mkF m 0 #[.val (.int x0), .val (.int x1), .val (.int x2), .val (.int x3), .val (.int x4), .unset, .unset, .unset, .unset, .unset, .unset, .unset, .unset, .unset, .unset] [] := by first | (simp [entryFrame, mkF, argsToLocals, Value.category, maxLocals]; done) | rfl
def Q0 (Z : State) (p1 : Int32) (p2 : Int32) (p3 : Int32) (p4 : Int32) (p5 : Int32) (h0 : Heap) (n0 : Nat) (v : Option Value) (h : Heap) (L : List Loc) : Prop := v = some (.int 1) ∧ Fr n0 L
set_option maxRecDepth 65536 in
set_option maxHeartbeats 40000000 in
theorem rm0 (l : Launch) (Z : State) (a0 : Array Value) (hw : ∀ d ∈ tables_1, d.before a0 Z = true) (ws : List Jvm.Cond) (p1 : Int32) (p2 : Int32) (p3 : Int32) (p4 : Int32) (p5 : Int32) (h0 : Heap) (n0 : Nat) (Z0 : n0 ≤ h0.size) :
    MetFree l x (head1 (Jvm.Cond.code x code maxLocals ret :: ws) room_1) (fun a U => a = #[(.int p1), (.int p2), (.int p3), (.int p4), (.int p5)] ∧ Z.Warmed39 U.vm ∧ U.heap = h0) (fun _ _ _ _ _ => True) (fun _ U o U' => ∃ v L, o = .returned v ∧ Q0 Z p1 p2 p3 p4 p5 h0 n0 v U'.heap L ∧ FrameEnd U o U' L 24 576) := by
  refine MetFree.of_bodySF (plainFor_of_name pn_0) hisR ?_
  intro p e s m args below meth c s₁ Bd hml0 hP hK
  obtain ⟨rfl, hZ, hh⟩ := hP
  have hx := Bd.exec
  have hby := Bd.bytes
  have hml : c.maxLocals = 15 := hml0
  have hown : s.vm.findClass "com/example/physarum/physarum/ProposalsClearPinLaw" = some m.cls := findClass_of_methodNamed Bd.named
  have hnm := (name_of_methodNamed Bd.named Bd.method).1
  have X0 : Stand p l e room_1 s m #[(.int p1), (.int p2), (.int p3), (.int p4), (.int p5)] below meth c s₁ [] 0 0 := Stand.of_body Bd
  have e0 : s₁.heap = h0 := by rw [← hh, Bd.state]; rfl
  have N0 := Fr.nil n0
  show EndsQ p.tables e below s (fun v h L => Q0 Z p1 p2 p3 p4 p5 h0 n0 v h L) 24 576 _
  refine EndsQ.go (b := s₁.setTop (mkF m 0 #[.val (.int p1), .val (.int p2), .val (.int p3), .val (.int p4), .val (.int p5), .unset, .unset, .unset, .unset, .unset, .unset, .unset, .unset, .unset, .unset] [])) (fun t k => castTop (ef_0 m p1 p2 p3 p4 p5) k) ?_
  refine EndsQ.go (b := s₁.setTop (mkF m 5 #[.val (.int p1), .val (.int p2), .val (.int p3), .val (.int p4), .val (.int p5), .val (.int (p1 &&& (3 : Int32))), .unset, .unset, .unset, .unset, .unset, .unset, .unset, .unset, .unset] [])) (fun t k => ?_) ?_
  · show Steps p.tables e below (s₁.setTop (mkF m 0 #[.val (.int p1), .val (.int p2), .val (.int p3), .val (.int p4), .val (.int p5), .unset, .unset, .unset, .unset, .unset, .unset, .unset, .unset, .unset, .unset] [])) _
    refine XS.iloadN X0.here hx rfl (hb hby at_0) rfl ?_
    refine XS.iconst X0.here hx rfl (hb hby at_1) ?_
    refine XS.iand X0.here hx rfl (hb hby at_2) rfl ?_
    refine XS.istore X0.here hx rfl (hb hby at_3) rfl (l' := #[.val (.int p1), .val (.int p2), .val (.int p3), .val (.int p4), .val (.int p5), .val (.int (p1 &&& (3 : Int32))), .unset, .unset, .unset, .unset, .unset, .unset, .unset, .unset, .unset]) rfl ?_
    show Steps p.tables e below (s₁.setTop (mkF m 5 #[.val (.int p1), .val (.int p2), .val (.int p3), .val (.int p4), .val (.int p5), .val (.int (p1 &&& (3 : Int32))), .unset, .unset, .unset, .unset, .unset, .unset, .unset, .unset, .unset] [])) _
    exact k
  generalize hv_va : (p1 &&& (3 : Int32)) = va
  have ha : ¬ va < (0 : Int32) ∧ va < (4 : Int32) := by rw [← hv_va]; exact own_and3 p1
  show EndsQ _ _ _ _ _ _ _ (s₁.setTop (mkF m 5 #[.val (.int p1), .val (.int p2), .val (.int p3), .val (.int p4), .val (.int p5), .val (.int va), .unset, .unset, .unset, .unset, .unset, .unset, .unset, .unset, .unset] []))
  refine EndsQ.go (b := s₁.setTop (mkF m 10 #[.val (.int p1), .val (.int p2), .val (.int p3), .val (.int p4), .val (.int p5), .val (.int va), .val (.int (p2 &&& (3 : Int32))), .unset, .unset, .unset, .unset, .unset, .unset, .unset, .unset] [])) (fun t k => ?_) ?_
  · show Steps p.tables e below (s₁.setTop (mkF m 5 #[.val (.int p1), .val (.int p2), .val (.int p3), .val (.int p4), .val (.int p5), .val (.int va), .unset, .unset, .unset, .unset, .unset, .unset, .unset, .unset, .unset] [])) _
    refine XS.iloadN X0.here hx rfl (hb hby at_5) rfl ?_
    refine XS.iconst X0.here hx rfl (hb hby at_6) ?_
    refine XS.iand X0.here hx rfl (hb hby at_7) rfl ?_
    refine XS.istore X0.here hx rfl (hb hby at_8) rfl (l' := #[.val (.int p1), .val (.int p2), .val (.int p3), .val (.int p4), .val (.int p5), .val (.int va), .val (.int (p2 &&& (3 : Int32))), .unset, .unset, .unset, .unset, .unset, .unset, .unset, .unset]) rfl ?_
    show Steps p.tables e below (s₁.setTop (mkF m 10 #[.val (.int p1), .val (.int p2), .val (.int p3), .val (.int p4), .val (.int p5), .val (.int va), .val (.int (p2 &&& (3 : Int32))), .unset, .unset, .unset, .unset, .unset, .unset, .unset, .unset] [])) _
    exact k
  generalize hv_vb : (p2 &&& (3 : Int32)) = vb
  have hb_ : ¬ vb < (0 : Int32) ∧ vb < (4 : Int32) := by rw [← hv_vb]; exact own_and3 p2
  show EndsQ _ _ _ _ _ _ _ (s₁.setTop (mkF m 10 #[.val (.int p1), .val (.int p2), .val (.int p3), .val (.int p4), .val (.int p5), .val (.int va), .val (.int vb), .unset, .unset, .unset, .unset, .unset, .unset, .unset, .unset] []))
  refine EndsQ.go (b := s₁.setTop (mkF m 15 #[.val (.int p1), .val (.int p2), .val (.int p3), .val (.int p4), .val (.int p5), .val (.int va), .val (.int vb), .val (.int (p3 &&& (3 : Int32))), .unset, .unset, .unset, .unset, .unset, .unset, .unset] [])) (fun t k => ?_) ?_
  · show Steps p.tables e below (s₁.setTop (mkF m 10 #[.val (.int p1), .val (.int p2), .val (.int p3), .val (.int p4), .val (.int p5), .val (.int va), .val (.int vb), .unset, .unset, .unset, .unset, .unset, .unset, .unset, .unset] [])) _
    refine XS.iloadN X0.here hx rfl (hb hby at_10) rfl ?_
    refine XS.iconst X0.here hx rfl (hb hby at_11) ?_
    refine XS.iand X0.here hx rfl (hb hby at_12) rfl ?_
    refine XS.istore X0.here hx rfl (hb hby at_13) rfl (l' := #[.val (.int p1), .val (.int p2), .val (.int p3), .val (.int p4), .val (.int p5), .val (.int va), .val (.int vb), .val (.int (p3 &&& (3 : Int32))), .unset, .unset, .unset, .unset, .unset, .unset, .unset]) rfl ?_
    show Steps p.tables e below (s₁.setTop (mkF m 15 #[.val (.int p1), .val (.int p2), .val (.int p3), .val (.int p4), .val (.int p5), .val (.int va), .val (.int vb), .val (.int (p3 &&& (3 : Int32))), .unset, .unset, .unset, .unset, .unset, .unset, .unset] [])) _
    exact k
  generalize hv_vc : (p3 &&& (3 : Int32)) = vc
  have hc_ : ¬ vc < (0 : Int32) ∧ vc < (4 : Int32) := by rw [← hv_vc]; exact own_and3 p3
  show EndsQ _ _ _ _ _ _ _ (s₁.setTop (mkF m 15 #[.val (.int p1), .val (.int p2), .val (.int p3), .val (.int p4), .val (.int p5), .val (.int va), .val (.int vb), .val (.int vc), .unset, .unset, .unset, .unset, .unset, .unset, .unset] []))
  refine EndsQ.go (b := s₁.setTop (mkF m 21 #[.val (.int p1), .val (.int p2), .val (.int p3), .val (.int p4), .val (.int p5), .val (.int va), .val (.int vb), .val (.int vc), .val (.int (p4 &&& (7 : Int32))), .unset, .unset, .unset, .unset, .unset, .unset] [])) (fun t k => ?_) ?_
  · show Steps p.tables e below (s₁.setTop (mkF m 15 #[.val (.int p1), .val (.int p2), .val (.int p3), .val (.int p4), .val (.int p5), .val (.int va), .val (.int vb), .val (.int vc), .unset, .unset, .unset, .unset, .unset, .unset, .unset] [])) _
    refine XS.iloadN X0.here hx rfl (hb hby at_15) rfl ?_
    refine XS.bipush X0.here hx rfl (hb hby at_16) ?_
    refine XS.iand X0.here hx rfl (hb hby at_18) rfl ?_
    refine XS.istore X0.here hx rfl (hb hby at_19) rfl (l' := #[.val (.int p1), .val (.int p2), .val (.int p3), .val (.int p4), .val (.int p5), .val (.int va), .val (.int vb), .val (.int vc), .val (.int (p4 &&& (7 : Int32))), .unset, .unset, .unset, .unset, .unset, .unset]) rfl ?_
    show Steps p.tables e below (s₁.setTop (mkF m 21 #[.val (.int p1), .val (.int p2), .val (.int p3), .val (.int p4), .val (.int p5), .val (.int va), .val (.int vb), .val (.int vc), .val (.int (p4 &&& (7 : Int32))), .unset, .unset, .unset, .unset, .unset, .unset] [])) _
    exact k
  generalize hv_ve : (p4 &&& (7 : Int32)) = ve
  show EndsQ _ _ _ _ _ _ _ (s₁.setTop (mkF m 21 #[.val (.int p1), .val (.int p2), .val (.int p3), .val (.int p4), .val (.int p5), .val (.int va), .val (.int vb), .val (.int vc), .val (.int ve), .unset, .unset, .unset, .unset, .unset, .unset] []))
  refine EndsQ.go (b := s₁.setTop (mkF m 28 #[.val (.int p1), .val (.int p2), .val (.int p3), .val (.int p4), .val (.int p5), .val (.int va), .val (.int vb), .val (.int vc), .val (.int ve), .val (.int (p5 &&& (7 : Int32))), .unset, .unset, .unset, .unset, .unset] [])) (fun t k => ?_) ?_
  · show Steps p.tables e below (s₁.setTop (mkF m 21 #[.val (.int p1), .val (.int p2), .val (.int p3), .val (.int p4), .val (.int p5), .val (.int va), .val (.int vb), .val (.int vc), .val (.int ve), .unset, .unset, .unset, .unset, .unset, .unset] [])) _
    refine XS.iload X0.here hx rfl (hb hby at_21) rfl ?_
    refine XS.bipush X0.here hx rfl (hb hby at_23) ?_
    refine XS.iand X0.here hx rfl (hb hby at_25) rfl ?_
    refine XS.istore X0.here hx rfl (hb hby at_26) rfl (l' := #[.val (.int p1), .val (.int p2), .val (.int p3), .val (.int p4), .val (.int p5), .val (.int va), .val (.int vb), .val (.int vc), .val (.int ve), .val (.int (p5 &&& (7 : Int32))), .unset, .unset, .unset, .unset, .unset]) rfl ?_
    show Steps p.tables e below (s₁.setTop (mkF m 28 #[.val (.int p1), .val (.int p2), .val (.int p3), .val (.int p4), .val (.int p5), .val (.int va), .val (.int vb), .val (.int vc), .val (.int ve), .val (.int (p5 &&& (7 : Int32))), .unset, .unset, .unset, .unset, .unset] [])) _
    exact k
  generalize hv_vf : (p5 &&& (7 : Int32)) = vf
  show EndsQ _ _ _ _ _ _ _ (s₁.setTop (mkF m 28 #[.val (.int p1), .val (.int p2), .val (.int p3), .val (.int p4), .val (.int p5), .val (.int va), .val (.int vb), .val (.int vc), .val (.int ve), .val (.int vf), .unset, .unset, .unset, .unset, .unset] []))
  by_cases eab : va = vb
  · have hq_eab := eab
    obtain ⟨T101, h101, X101, e101, E101, A101, D101, -, st101⟩ := newO X0 hx hZ hown (hw _ (List.mem_of_getElem? (i := 0) rfl)) (hw _ (List.mem_of_getElem? (i := 1) rfl)) (hw _ (List.mem_of_getElem? (i := 2) rfl)) e0 (g := (mkF m 28 #[.val (.int p1), .val (.int p2), .val (.int p3), .val (.int p4), .val (.int p5), .val (.int va), .val (.int vb), .val (.int vc), .val (.int ve), .val (.int vf), .unset, .unset, .unset, .unset, .unset] [])) rfl (hb hby at_28) (by decide) (by decide)
    obtain ⟨b101, g101⟩ : ∃ z, z = h0.size := ⟨_, rfl⟩
    rw [← g101] at A101 D101 st101
    have gn101 : n0 ≤ b101 := Nat.le_trans Z0 (Nat.le_of_eq g101.symm)
    have f102 := Nat.le_trans Z0 E101.1
    have f103 : Fld Z h101 b101 "com/example/physarum/physarum/Proposals" "candidates" "[I" .null := D101 (Or.inl (hw _ (List.mem_of_getElem? (i := 11) rfl))) (ty := (.array .int)) (by decide)
    have f104 : Fld Z h101 b101 "com/example/physarum/physarum/Proposals" "proposed" "[I" .null := D101 (Or.inl (hw _ (List.mem_of_getElem? (i := 13) rfl))) (ty := (.array .int)) (by decide)
    have f105 : Fld Z h101 b101 "com/example/physarum/physarum/Proposals" "confidences" "[D" .null := D101 (Or.inl (hw _ (List.mem_of_getElem? (i := 16) rfl))) (ty := (.array .double)) (by decide)
    have f106 : Fld Z h101 b101 "com/example/physarum/physarum/Proposals" "starts" "[I" .null := D101 (Or.inl (hw _ (List.mem_of_getElem? (i := 18) rfl))) (ty := (.array .int)) (by decide)
    have f107 : Fld Z h101 b101 "com/example/physarum/physarum/Proposals" "arranged" "[D" .null := D101 (Or.inl (hw _ (List.mem_of_getElem? (i := 20) rfl))) (ty := (.array .double)) (by decide)
    have f108 : Fld Z h101 b101 "com/example/physarum/physarum/Proposals" "taken" "[I" .null := D101 (Or.inl (hw _ (List.mem_of_getElem? (i := 22) rfl))) (ty := (.array .int)) (by decide)
    have f109 : Fld Z h101 b101 "com/example/physarum/physarum/Proposals" "indices" "[I" .null := D101 (Or.inr (hw _ (List.mem_of_getElem? (i := 24) rfl))) (ty := (.array .int)) (by decide)
    have f110 : Fld Z h101 b101 "com/example/physarum/physarum/Proposals" "size" "I" (.int (0 : Int32)) := D101 (Or.inl (hw _ (List.mem_of_getElem? (i := 36) rfl))) (ty := .int) (by decide)
    have f111 : Fld Z h101 b101 "com/example/physarum/physarum/Proposals" "candidateCount" "I" (.int (0 : Int32)) := D101 (Or.inl (hw _ (List.mem_of_getElem? (i := 38) rfl))) (ty := .int) (by decide)
    refine EndsQ.go st101 ?_
    show EndsQ _ _ _ _ _ _ _ (T101.setTop (mkF m 31 #[.val (.int p1), .val (.int p2), .val (.int p3), .val (.int p4), .val (.int p5), .val (.int va), .val (.int vb), .val (.int vc), .val (.int ve), .val (.int vf), .unset, .unset, .unset, .unset, .unset] [(.ref b101)]))
    refine EndsQ.go (b := T101.setTop (mkF m 33 #[.val (.int p1), .val (.int p2), .val (.int p3), .val (.int p4), .val (.int p5), .val (.int va), .val (.int vb), .val (.int vc), .val (.int ve), .val (.int vf), .unset, .unset, .unset, .unset, .unset] [(.int (4 : Int32)), (.ref b101), (.ref b101)])) (fun t k => ?_) ?_
    · show Steps p.tables e below (T101.setTop (mkF m 31 #[.val (.int p1), .val (.int p2), .val (.int p3), .val (.int p4), .val (.int p5), .val (.int va), .val (.int vb), .val (.int vc), .val (.int ve), .val (.int vf), .unset, .unset, .unset, .unset, .unset] [(.ref b101)])) _
      refine XS.dup X101.here hx rfl (hb hby at_31) rfl rfl ?_
      refine XS.iconst X101.here hx rfl (hb hby at_32) ?_
      exact k
    obtain ⟨_, _, ⟨T112, L112, kk112, nn112⟩, -, X112, ⟨Lc112, hQ112, l112, y112, z112⟩, st112⟩ := X101.specialBack hx (y := (⟨"com/example/physarum/physarum/Proposals", "<init>", "(I)V"⟩ : MethodName)) rfl hown (mvT hZ (hw _ (List.mem_of_getElem? (i := 3) rfl))) (mvT hZ (hw _ (List.mem_of_getElem? (i := 4) rfl))) (mvT hZ (hw _ (List.mem_of_getElem? (i := 5) rfl))) (by decide) (backOf (W := 1) (rmInit l Z a0 hw [] b101 h101 n0 f102 f103 f104 f105 f106 f107 f108 f109 f111 f110 A101 gn101) hZ (hw _ (List.mem_of_getElem? (i := 5) rfl)) (hw _ (List.mem_of_getElem? (i := 2) rfl)) (by decide) (by decide)) (g := (mkF m 33 #[.val (.int p1), .val (.int p2), .val (.int p3), .val (.int p4), .val (.int p5), .val (.int va), .val (.int vb), .val (.int vc), .val (.int ve), .val (.int vf), .unset, .unset, .unset, .unset, .unset] [(.int (4 : Int32)), (.ref b101), (.ref b101)])) rfl (by rw [hml]; rfl) (Steps.refl _) (a := b101) (argsL := [(.int (4 : Int32))]) (rest := [(.ref b101)]) (lenOf pd_4 rfl) rfl (by show 2 * 0 + _ ≤ _; exact Nat.le_of_eq rfl) (hb hby at_33) (fun _ _ => ⟨rfl, e101, (by decide : 1 + 7 ≤ _), (by decide : 9 + 245 ≤ _)⟩)
    dsimp only [Pt.U, Pt.locs, Pt.cells, Pt.slots] at X112 l112 y112 z112 st112 hQ112
    subst l112 y112 z112
    obtain ⟨oo, kk, rfl, ho112, Nq112, hz112, hne, hn, HS112⟩ := hQ112
    have N112 := Fr.app N0 Nq112
    subst ho112
    obtain ⟨SE_112, SF_candidates_112, SF_proposed_112, SF_confidences_112, SF_starts_112, SF_arranged_112, SF_taken_112, SF_indices_112, SF_cnt_112, SF_sz_112, SA_1_112, SA_2_112, SA_3_112, SA_4_112, SA_5_112, SA_6_112, SA_7_112⟩ := HS112
    refine EndsQ.go (fun t k => st112.trans k) ?_
    show EndsQ _ _ _ _ _ _ _ (T112.setTop (mkF m 36 #[.val (.int p1), .val (.int p2), .val (.int p3), .val (.int p4), .val (.int p5), .val (.int va), .val (.int vb), .val (.int vc), .val (.int ve), .val (.int vf), .unset, .unset, .unset, .unset, .unset] [(.ref (oo 0))]))
    refine EndsQ.go (b := T112.setTop (mkF m 45 #[.val (.int p1), .val (.int p2), .val (.int p3), .val (.int p4), .val (.int p5), .val (.int va), .val (.int vb), .val (.int vc), .val (.int ve), .val (.int vf), .val (.ref (oo 0)), .unset, .unset, .unset, .unset] [(.double (4636737291354636288 : UInt64)), (.int va), (.ref (oo 0))])) (fun t k => ?_) ?_
    · show Steps p.tables e below (T112.setTop (mkF m 36 #[.val (.int p1), .val (.int p2), .val (.int p3), .val (.int p4), .val (.int p5), .val (.int va), .val (.int vb), .val (.int vc), .val (.int ve), .val (.int vf), .unset, .unset, .unset, .unset, .unset] [(.ref (oo 0))])) _
      refine XS.astore X112.here hx rfl (hb hby at_36) rfl rfl (l' := #[.val (.int p1), .val (.int p2), .val (.int p3), .val (.int p4), .val (.int p5), .val (.int va), .val (.int vb), .val (.int vc), .val (.int ve), .val (.int vf), .val (.ref (oo 0)), .unset, .unset, .unset, .unset]) rfl ?_
      refine XS.aload X112.here hx rfl (hb hby at_38) rfl rfl ?_
      show Steps p.tables e below (T112.setTop (mkF m 40 #[.val (.int p1), .val (.int p2), .val (.int p3), .val (.int p4), .val (.int p5), .val (.int va), .val (.int vb), .val (.int vc), .val (.int ve), .val (.int vf), .val (.ref (oo 0)), .unset, .unset, .unset, .unset] [(.ref (oo 0))])) _
      refine XS.iload X112.here hx rfl (hb hby at_40) rfl ?_
      refine X112.ldc2DoubleC hx hown (mvT hZ (hw _ (List.mem_of_getElem? (i := 29) rfl))) (g := (mkF m 42 #[.val (.int p1), .val (.int p2), .val (.int p3), .val (.int p4), .val (.int p5), .val (.int va), .val (.int vb), .val (.int vc), .val (.int ve), .val (.int vf), .val (.ref (oo 0)), .unset, .unset, .unset, .unset] [(.int va), (.ref (oo 0))])) rfl (hb hby at_42) _ ?_
      exact k
    obtain ⟨cq113, kq113, qa113, qb113, qc113⟩ := isOf hZ rfl SE_112
    obtain ⟨_, _, ⟨T113, L113, kk113, nn113⟩, -, X113, ⟨Lc113, hQ113, l113, y113, z113⟩, st113⟩ := X112.virtualBack hx (y := (⟨"com/example/physarum/physarum/Proposals", "add", "(ID)V"⟩ : MethodName)) (z := (⟨"com/example/physarum/physarum/Proposals", "add", "(ID)V"⟩ : MethodName)) hown (mvT hZ (hw _ (List.mem_of_getElem? (i := 30) rfl))) (mvT hZ (hw _ (List.mem_of_getElem? (i := 31) rfl))) (notFace_of_selects (args := #[]) (mvT hZ (hw _ (List.mem_of_getElem? (i := 33) rfl)))) (mvT hZ (hw _ (List.mem_of_getElem? (i := 33) rfl))) (mvT hZ (hw _ (List.mem_of_getElem? (i := 32) rfl))) (by decide) (backOf (W := 0) (rmAddN0 l Z a0 hw [] va (4636737291354636288 : UInt64) oo kk (0 : Int32) (0 : Int32) (0 : Int32) (0 : Int32) (0 : Int32) (0 : Int32) (0 : UInt64) (0 : UInt64) (0 : UInt64) (0 : Int32) (0 : Int32) (0 : Int32) (0 : UInt64) (0 : UInt64) (0 : UInt64) (0 : Int32) (0 : Int32) (0 : Int32) own_L0 T112.heap n0 hz112 hne hn ⟨SE_112, SF_candidates_112, SF_proposed_112, SF_confidences_112, SF_starts_112, SF_arranged_112, SF_taken_112, SF_indices_112, SF_cnt_112, SF_sz_112, SA_1_112, SA_2_112, SA_3_112, SA_4_112, SA_5_112, SA_6_112, SA_7_112⟩ (by first | exact own_len0 | (simp only [List.length_set]; exact own_len0)) ha (own_g0 va ha)) hZ (hw _ (List.mem_of_getElem? (i := 34) rfl)) (hw _ (List.mem_of_getElem? (i := 2) rfl)) (by decide) (by decide)) qa113 qc113 (g := (mkF m 45 #[.val (.int p1), .val (.int p2), .val (.int p3), .val (.int p4), .val (.int p5), .val (.int va), .val (.int vb), .val (.int vc), .val (.int ve), .val (.int vf), .val (.ref (oo 0)), .unset, .unset, .unset, .unset] [(.double (4636737291354636288 : UInt64)), (.int va), (.ref (oo 0))])) rfl (by rw [hml]; rfl) (Steps.refl _) (argsL := [(.int va), (.double (4636737291354636288 : UInt64))]) (rest := []) (lenOf pd_5 rfl) rfl (by show 2 * 0 + _ ≤ _; exact Nat.le_of_eq rfl) (hb hby at_45) (fun _ _ => ⟨rfl, rfl, (by decide : 8 + 0 ≤ _), (by decide : 254 + 0 ≤ _)⟩)
    dsimp only [Pt.U, Pt.locs, Pt.cells, Pt.slots] at X113 l113 y113 z113 st113 hQ113
    subst l113 y113 z113
    obtain ⟨rfl, Nq113, hz113, HS113⟩ := hQ113
    have N113 := Fr.app N112 Nq113
    obtain ⟨SE_113, SF_candidates_113, SF_proposed_113, SF_confidences_113, SF_starts_113, SF_arranged_113, SF_taken_113, SF_indices_113, SF_cnt_113, SF_sz_113, SA_1_113, SA_2_113, SA_3_113, SA_4_113, SA_5_113, SA_6_113, SA_7_113⟩ := HS113
    refine EndsQ.go (fun t k => st113.trans k) ?_
    show EndsQ _ _ _ _ _ _ _ (T113.setTop (mkF m 48 #[.val (.int p1), .val (.int p2), .val (.int p3), .val (.int p4), .val (.int p5), .val (.int va), .val (.int vb), .val (.int vc), .val (.int ve), .val (.int vf), .val (.ref (oo 0)), .unset, .unset, .unset, .unset] []))
    refine EndsQ.go (b := T113.setTop (mkF m 55 #[.val (.int p1), .val (.int p2), .val (.int p3), .val (.int p4), .val (.int p5), .val (.int va), .val (.int vb), .val (.int vc), .val (.int ve), .val (.int vf), .val (.ref (oo 0)), .unset, .unset, .unset, .unset] [(.double (4641240890982006784 : UInt64)), (.int vb), (.ref (oo 0))])) (fun t k => ?_) ?_
    · show Steps p.tables e below (T113.setTop (mkF m 48 #[.val (.int p1), .val (.int p2), .val (.int p3), .val (.int p4), .val (.int p5), .val (.int va), .val (.int vb), .val (.int vc), .val (.int ve), .val (.int vf), .val (.ref (oo 0)), .unset, .unset, .unset, .unset] [])) _
      refine XS.aload X113.here hx rfl (hb hby at_48) rfl rfl ?_
      refine XS.iload X113.here hx rfl (hb hby at_50) rfl ?_
      show Steps p.tables e below (T113.setTop (mkF m 52 #[.val (.int p1), .val (.int p2), .val (.int p3), .val (.int p4), .val (.int p5), .val (.int va), .val (.int vb), .val (.int vc), .val (.int ve), .val (.int vf), .val (.ref (oo 0)), .unset, .unset, .unset, .unset] [(.int vb), (.ref (oo 0))])) _
      refine X113.ldc2DoubleC hx hown (mvT hZ (hw _ (List.mem_of_getElem? (i := 39) rfl))) (g := (mkF m 52 #[.val (.int p1), .val (.int p2), .val (.int p3), .val (.int p4), .val (.int p5), .val (.int va), .val (.int vb), .val (.int vc), .val (.int ve), .val (.int vf), .val (.ref (oo 0)), .unset, .unset, .unset, .unset] [(.int vb), (.ref (oo 0))])) rfl (hb hby at_52) _ ?_
      exact k
    obtain ⟨cq114, kq114, qa114, qb114, qc114⟩ := isOf hZ rfl SE_113
    obtain ⟨_, _, ⟨T114, L114, kk114, nn114⟩, -, X114, ⟨Lc114, hQ114, l114, y114, z114⟩, st114⟩ := X113.virtualBack hx (y := (⟨"com/example/physarum/physarum/Proposals", "add", "(ID)V"⟩ : MethodName)) (z := (⟨"com/example/physarum/physarum/Proposals", "add", "(ID)V"⟩ : MethodName)) hown (mvT hZ (hw _ (List.mem_of_getElem? (i := 30) rfl))) (mvT hZ (hw _ (List.mem_of_getElem? (i := 31) rfl))) (notFace_of_selects (args := #[]) (mvT hZ (hw _ (List.mem_of_getElem? (i := 33) rfl)))) (mvT hZ (hw _ (List.mem_of_getElem? (i := 33) rfl))) (mvT hZ (hw _ (List.mem_of_getElem? (i := 32) rfl))) (by decide) (backOf (W := 0) (rmAddO1 l Z a0 hw [] vb (4641240890982006784 : UInt64) oo kk va (0 : Int32) (0 : Int32) (0 : Int32) (0 : Int32) (0 : Int32) (4636737291354636288 : UInt64) (0 : UInt64) (0 : UInt64) (0 : Int32) (0 : Int32) (0 : UInt64) (0 : UInt64) (0 : UInt64) (0 : Int32) (0 : Int32) (0 : Int32) (own_L0.set (va).toNatClampNeg (.int (0 : Int32))) T113.heap n0 hz113 hne hn ⟨SE_113, SF_candidates_113, SF_proposed_113, SF_confidences_113, SF_starts_113, SF_arranged_113, SF_taken_113, SF_indices_113, SF_cnt_113, SF_sz_113, SA_1_113, SA_2_113, SA_3_113, SA_4_113, SA_5_113, SA_6_113, SA_7_113⟩ (by first | exact own_len0 | (simp only [List.length_set]; exact own_len0)) hb_ (own_g2 va vb ha eab)) hZ (hw _ (List.mem_of_getElem? (i := 34) rfl)) (hw _ (List.mem_of_getElem? (i := 2) rfl)) (by decide) (by decide)) qa114 qc114 (g := (mkF m 55 #[.val (.int p1), .val (.int p2), .val (.int p3), .val (.int p4), .val (.int p5), .val (.int va), .val (.int vb), .val (.int vc), .val (.int ve), .val (.int vf), .val (.ref (oo 0)), .unset, .unset, .unset, .unset] [(.double (4641240890982006784 : UInt64)), (.int vb), (.ref (oo 0))])) rfl (by rw [hml]; rfl) (Steps.refl _) (argsL := [(.int vb), (.double (4641240890982006784 : UInt64))]) (rest := []) (lenOf pd_5 rfl) rfl (by show 2 * 0 + _ ≤ _; exact Nat.le_of_eq rfl) (hb hby at_55) (fun _ _ => ⟨rfl, rfl, (by decide : 8 + 0 ≤ _), (by decide : 254 + 0 ≤ _)⟩)
    dsimp only [Pt.U, Pt.locs, Pt.cells, Pt.slots] at X114 l114 y114 z114 st114 hQ114
    subst l114 y114 z114
    obtain ⟨rfl, Nq114, hz114, HS114⟩ := hQ114
    have N114 := Fr.app N113 Nq114
    obtain ⟨SE_114, SF_candidates_114, SF_proposed_114, SF_confidences_114, SF_starts_114, SF_arranged_114, SF_taken_114, SF_indices_114, SF_cnt_114, SF_sz_114, SA_1_114, SA_2_114, SA_3_114, SA_4_114, SA_5_114, SA_6_114, SA_7_114⟩ := HS114
    refine EndsQ.go (fun t k => st114.trans k) ?_
    show EndsQ _ _ _ _ _ _ _ (T114.setTop (mkF m 58 #[.val (.int p1), .val (.int p2), .val (.int p3), .val (.int p4), .val (.int p5), .val (.int va), .val (.int vb), .val (.int vc), .val (.int ve), .val (.int vf), .val (.ref (oo 0)), .unset, .unset, .unset, .unset] []))
    refine EndsQ.go (b := T114.setTop (mkF m 60 #[.val (.int p1), .val (.int p2), .val (.int p3), .val (.int p4), .val (.int p5), .val (.int va), .val (.int vb), .val (.int vc), .val (.int ve), .val (.int vf), .val (.ref (oo 0)), .unset, .unset, .unset, .unset] [(.ref (oo 0))])) (fun t k => ?_) ?_
    · show Steps p.tables e below (T114.setTop (mkF m 58 #[.val (.int p1), .val (.int p2), .val (.int p3), .val (.int p4), .val (.int p5), .val (.int va), .val (.int vb), .val (.int vc), .val (.int ve), .val (.int vf), .val (.ref (oo 0)), .unset, .unset, .unset, .unset] [])) _
      refine XS.aload X114.here hx rfl (hb hby at_58) rfl rfl ?_
      exact k
    obtain ⟨cq115, kq115, qa115, qb115, qc115⟩ := isOf hZ rfl SE_114
    obtain ⟨_, _, ⟨T115, L115, kk115, nn115⟩, -, X115, ⟨Lc115, hQ115, l115, y115, z115⟩, st115⟩ := X114.virtualBack hx (y := (⟨"com/example/physarum/physarum/Proposals", "clear", "()V"⟩ : MethodName)) (z := (⟨"com/example/physarum/physarum/Proposals", "clear", "()V"⟩ : MethodName)) hown (mvT hZ (hw _ (List.mem_of_getElem? (i := 40) rfl))) (mvT hZ (hw _ (List.mem_of_getElem? (i := 41) rfl))) (notFace_of_selects (args := #[]) (mvT hZ (hw _ (List.mem_of_getElem? (i := 43) rfl)))) (mvT hZ (hw _ (List.mem_of_getElem? (i := 43) rfl))) (mvT hZ (hw _ (List.mem_of_getElem? (i := 42) rfl))) (by decide) (backOf (W := 0) (rmClr1 l Z a0 hw [] oo kk va (0 : Int32) (0 : Int32) (0 : Int32) (0 : Int32) (0 : Int32) (4636737291354636288 : UInt64) (4641240890982006784 : UInt64) (0 : UInt64) (2 : Int32) (0 : Int32) (0 : Int32) (0 : UInt64) (0 : UInt64) (0 : UInt64) (0 : Int32) (0 : Int32) (0 : Int32) (own_L0.set (va).toNatClampNeg (.int (0 : Int32))) T114.heap n0 hz114 hne hn ⟨SE_114, SF_candidates_114, SF_proposed_114, SF_confidences_114, SF_starts_114, SF_arranged_114, SF_taken_114, SF_indices_114, SF_cnt_114, SF_sz_114, SA_1_114, SA_2_114, SA_3_114, SA_4_114, SA_5_114, SA_6_114, SA_7_114⟩ (by first | exact own_len0 | (simp only [List.length_set]; exact own_len0)) ha) hZ (hw _ (List.mem_of_getElem? (i := 44) rfl)) (hw _ (List.mem_of_getElem? (i := 2) rfl)) (by decide) (by decide)) qa115 qc115 (g := (mkF m 60 #[.val (.int p1), .val (.int p2), .val (.int p3), .val (.int p4), .val (.int p5), .val (.int va), .val (.int vb), .val (.int vc), .val (.int ve), .val (.int vf), .val (.ref (oo 0)), .unset, .unset, .unset, .unset] [(.ref (oo 0))])) rfl (by rw [hml]; rfl) (Steps.refl _) (argsL := []) (rest := []) (lenOf pd_6 rfl) rfl (by show 2 * 0 + _ ≤ _; exact Nat.le_of_eq rfl) (hb hby at_60) (fun _ _ => ⟨rfl, rfl, (by decide : 8 + 0 ≤ _), (by decide : 254 + 0 ≤ _)⟩)
    dsimp only [Pt.U, Pt.locs, Pt.cells, Pt.slots] at X115 l115 y115 z115 st115 hQ115
    subst l115 y115 z115
    obtain ⟨rfl, Nq115, hz115, HS115⟩ := hQ115
    have N115 := Fr.app N114 Nq115
    obtain ⟨SE_115, SF_candidates_115, SF_proposed_115, SF_confidences_115, SF_starts_115, SF_arranged_115, SF_taken_115, SF_indices_115, SF_cnt_115, SF_sz_115, SA_1_115, SA_2_115, SA_3_115, SA_4_115, SA_5_115, SA_6_115, SA_7_115⟩ := HS115
    refine EndsQ.go (fun t k => st115.trans k) ?_
    show EndsQ _ _ _ _ _ _ _ (T115.setTop (mkF m 63 #[.val (.int p1), .val (.int p2), .val (.int p3), .val (.int p4), .val (.int p5), .val (.int va), .val (.int vb), .val (.int vc), .val (.int ve), .val (.int vf), .val (.ref (oo 0)), .unset, .unset, .unset, .unset] []))
    have fx116 : Arv Z T115.heap (oo 7) (kk 7) .int (4 : Int32) own_L0 (.int (0 : Int32)) := by
      have q := SA_7_115
      rw [(own_clr1 va ha)] at q
      exact q
    by_cases eca : vc = va
    · have hq_eca := eca
      refine EndsQ.go (b := T115.setTop (mkF m 70 #[.val (.int p1), .val (.int p2), .val (.int p3), .val (.int p4), .val (.int p5), .val (.int va), .val (.int vb), .val (.int vc), .val (.int ve), .val (.int vf), .val (.ref (oo 0)), .unset, .unset, .unset, .unset] [(.double (FP.l2d (ve.toInt64))), (.int vc), (.ref (oo 0))])) (fun t k => ?_) ?_
      · show Steps p.tables e below (T115.setTop (mkF m 63 #[.val (.int p1), .val (.int p2), .val (.int p3), .val (.int p4), .val (.int p5), .val (.int va), .val (.int vb), .val (.int vc), .val (.int ve), .val (.int vf), .val (.ref (oo 0)), .unset, .unset, .unset, .unset] [])) _
        refine XS.aload X115.here hx rfl (hb hby at_63) rfl rfl ?_
        refine XS.iload X115.here hx rfl (hb hby at_65) rfl ?_
        show Steps p.tables e below (T115.setTop (mkF m 67 #[.val (.int p1), .val (.int p2), .val (.int p3), .val (.int p4), .val (.int p5), .val (.int va), .val (.int vb), .val (.int vc), .val (.int ve), .val (.int vf), .val (.ref (oo 0)), .unset, .unset, .unset, .unset] [(.int vc), (.ref (oo 0))])) _
        refine XS.iload X115.here hx rfl (hb hby at_67) rfl ?_
        refine XS.i2dS X115.here hx rfl (hb hby at_69) rfl (i2d_w _) ?_
        exact k
      obtain ⟨cq117, kq117, qa117, qb117, qc117⟩ := isOf hZ rfl SE_115
      obtain ⟨_, _, ⟨T117, L117, kk117, nn117⟩, -, X117, ⟨Lc117, hQ117, l117, y117, z117⟩, st117⟩ := X115.virtualBack hx (y := (⟨"com/example/physarum/physarum/Proposals", "add", "(ID)V"⟩ : MethodName)) (z := (⟨"com/example/physarum/physarum/Proposals", "add", "(ID)V"⟩ : MethodName)) hown (mvT hZ (hw _ (List.mem_of_getElem? (i := 30) rfl))) (mvT hZ (hw _ (List.mem_of_getElem? (i := 31) rfl))) (notFace_of_selects (args := #[]) (mvT hZ (hw _ (List.mem_of_getElem? (i := 33) rfl)))) (mvT hZ (hw _ (List.mem_of_getElem? (i := 33) rfl))) (mvT hZ (hw _ (List.mem_of_getElem? (i := 32) rfl))) (by decide) (backOf (W := 0) (rmAddN0 l Z a0 hw [] vc (FP.l2d (ve.toInt64)) oo kk va (0 : Int32) (0 : Int32) (0 : Int32) (0 : Int32) (0 : Int32) (4636737291354636288 : UInt64) (4641240890982006784 : UInt64) (0 : UInt64) (2 : Int32) (0 : Int32) (0 : Int32) (0 : UInt64) (0 : UInt64) (0 : UInt64) (0 : Int32) (0 : Int32) (0 : Int32) own_L0 T115.heap n0 hz115 hne hn ⟨SE_115, SF_candidates_115, SF_proposed_115, SF_confidences_115, SF_starts_115, SF_arranged_115, SF_taken_115, SF_indices_115, SF_cnt_115, SF_sz_115, SA_1_115, SA_2_115, SA_3_115, SA_4_115, SA_5_115, SA_6_115, fx116⟩ (by first | exact own_len0 | (simp only [List.length_set]; exact own_len0)) hc_ (own_g0 vc hc_)) hZ (hw _ (List.mem_of_getElem? (i := 34) rfl)) (hw _ (List.mem_of_getElem? (i := 2) rfl)) (by decide) (by decide)) qa117 qc117 (g := (mkF m 70 #[.val (.int p1), .val (.int p2), .val (.int p3), .val (.int p4), .val (.int p5), .val (.int va), .val (.int vb), .val (.int vc), .val (.int ve), .val (.int vf), .val (.ref (oo 0)), .unset, .unset, .unset, .unset] [(.double (FP.l2d (ve.toInt64))), (.int vc), (.ref (oo 0))])) rfl (by rw [hml]; rfl) (Steps.refl _) (argsL := [(.int vc), (.double (FP.l2d (ve.toInt64)))]) (rest := []) (lenOf pd_5 rfl) rfl (by show 2 * 0 + _ ≤ _; exact Nat.le_of_eq rfl) (hb hby at_70) (fun _ _ => ⟨rfl, rfl, (by decide : 8 + 0 ≤ _), (by decide : 254 + 0 ≤ _)⟩)
      dsimp only [Pt.U, Pt.locs, Pt.cells, Pt.slots] at X117 l117 y117 z117 st117 hQ117
      subst l117 y117 z117
      obtain ⟨rfl, Nq117, hz117, HS117⟩ := hQ117
      have N117 := Fr.app N115 Nq117
      obtain ⟨SE_117, SF_candidates_117, SF_proposed_117, SF_confidences_117, SF_starts_117, SF_arranged_117, SF_taken_117, SF_indices_117, SF_cnt_117, SF_sz_117, SA_1_117, SA_2_117, SA_3_117, SA_4_117, SA_5_117, SA_6_117, SA_7_117⟩ := HS117
      refine EndsQ.go (fun t k => st117.trans k) ?_
      show EndsQ _ _ _ _ _ _ _ (T117.setTop (mkF m 73 #[.val (.int p1), .val (.int p2), .val (.int p3), .val (.int p4), .val (.int p5), .val (.int va), .val (.int vb), .val (.int vc), .val (.int ve), .val (.int vf), .val (.ref (oo 0)), .unset, .unset, .unset, .unset] []))
      refine EndsQ.go (b := T117.setTop (mkF m 80 #[.val (.int p1), .val (.int p2), .val (.int p3), .val (.int p4), .val (.int p5), .val (.int va), .val (.int vb), .val (.int vc), .val (.int ve), .val (.int vf), .val (.ref (oo 0)), .unset, .unset, .unset, .unset] [(.double (FP.l2d (vf.toInt64))), (.int va), (.ref (oo 0))])) (fun t k => ?_) ?_
      · show Steps p.tables e below (T117.setTop (mkF m 73 #[.val (.int p1), .val (.int p2), .val (.int p3), .val (.int p4), .val (.int p5), .val (.int va), .val (.int vb), .val (.int vc), .val (.int ve), .val (.int vf), .val (.ref (oo 0)), .unset, .unset, .unset, .unset] [])) _
        refine XS.aload X117.here hx rfl (hb hby at_73) rfl rfl ?_
        refine XS.iload X117.here hx rfl (hb hby at_75) rfl ?_
        show Steps p.tables e below (T117.setTop (mkF m 77 #[.val (.int p1), .val (.int p2), .val (.int p3), .val (.int p4), .val (.int p5), .val (.int va), .val (.int vb), .val (.int vc), .val (.int ve), .val (.int vf), .val (.ref (oo 0)), .unset, .unset, .unset, .unset] [(.int va), (.ref (oo 0))])) _
        refine XS.iload X117.here hx rfl (hb hby at_77) rfl ?_
        refine XS.i2dS X117.here hx rfl (hb hby at_79) rfl (i2d_w _) ?_
        exact k
      obtain ⟨cq118, kq118, qa118, qb118, qc118⟩ := isOf hZ rfl SE_117
      obtain ⟨_, _, ⟨T118, L118, kk118, nn118⟩, -, X118, ⟨Lc118, hQ118, l118, y118, z118⟩, st118⟩ := X117.virtualBack hx (y := (⟨"com/example/physarum/physarum/Proposals", "add", "(ID)V"⟩ : MethodName)) (z := (⟨"com/example/physarum/physarum/Proposals", "add", "(ID)V"⟩ : MethodName)) hown (mvT hZ (hw _ (List.mem_of_getElem? (i := 30) rfl))) (mvT hZ (hw _ (List.mem_of_getElem? (i := 31) rfl))) (notFace_of_selects (args := #[]) (mvT hZ (hw _ (List.mem_of_getElem? (i := 33) rfl)))) (mvT hZ (hw _ (List.mem_of_getElem? (i := 33) rfl))) (mvT hZ (hw _ (List.mem_of_getElem? (i := 32) rfl))) (by decide) (backOf (W := 0) (rmAddO1 l Z a0 hw [] va (FP.l2d (vf.toInt64)) oo kk vc (0 : Int32) (0 : Int32) (0 : Int32) (0 : Int32) (0 : Int32) (FP.l2d (ve.toInt64)) (4641240890982006784 : UInt64) (0 : UInt64) (0 : Int32) (0 : Int32) (0 : UInt64) (0 : UInt64) (0 : UInt64) (0 : Int32) (0 : Int32) (0 : Int32) (own_L0.set (vc).toNatClampNeg (.int (0 : Int32))) T117.heap n0 hz117 hne hn ⟨SE_117, SF_candidates_117, SF_proposed_117, SF_confidences_117, SF_starts_117, SF_arranged_117, SF_taken_117, SF_indices_117, SF_cnt_117, SF_sz_117, SA_1_117, SA_2_117, SA_3_117, SA_4_117, SA_5_117, SA_6_117, SA_7_117⟩ (by first | exact own_len0 | (simp only [List.length_set]; exact own_len0)) ha (own_g2 vc va hc_ eca)) hZ (hw _ (List.mem_of_getElem? (i := 34) rfl)) (hw _ (List.mem_of_getElem? (i := 2) rfl)) (by decide) (by decide)) qa118 qc118 (g := (mkF m 80 #[.val (.int p1), .val (.int p2), .val (.int p3), .val (.int p4), .val (.int p5), .val (.int va), .val (.int vb), .val (.int vc), .val (.int ve), .val (.int vf), .val (.ref (oo 0)), .unset, .unset, .unset, .unset] [(.double (FP.l2d (vf.toInt64))), (.int va), (.ref (oo 0))])) rfl (by rw [hml]; rfl) (Steps.refl _) (argsL := [(.int va), (.double (FP.l2d (vf.toInt64)))]) (rest := []) (lenOf pd_5 rfl) rfl (by show 2 * 0 + _ ≤ _; exact Nat.le_of_eq rfl) (hb hby at_80) (fun _ _ => ⟨rfl, rfl, (by decide : 8 + 0 ≤ _), (by decide : 254 + 0 ≤ _)⟩)
      dsimp only [Pt.U, Pt.locs, Pt.cells, Pt.slots] at X118 l118 y118 z118 st118 hQ118
      subst l118 y118 z118
      obtain ⟨rfl, Nq118, hz118, HS118⟩ := hQ118
      have N118 := Fr.app N117 Nq118
      obtain ⟨SE_118, SF_candidates_118, SF_proposed_118, SF_confidences_118, SF_starts_118, SF_arranged_118, SF_taken_118, SF_indices_118, SF_cnt_118, SF_sz_118, SA_1_118, SA_2_118, SA_3_118, SA_4_118, SA_5_118, SA_6_118, SA_7_118⟩ := HS118
      refine EndsQ.go (fun t k => st118.trans k) ?_
      show EndsQ _ _ _ _ _ _ _ (T118.setTop (mkF m 83 #[.val (.int p1), .val (.int p2), .val (.int p3), .val (.int p4), .val (.int p5), .val (.int va), .val (.int vb), .val (.int vc), .val (.int ve), .val (.int vf), .val (.ref (oo 0)), .unset, .unset, .unset, .unset] []))
      refine EndsQ.go (b := T118.setTop (mkF m 85 #[.val (.int p1), .val (.int p2), .val (.int p3), .val (.int p4), .val (.int p5), .val (.int va), .val (.int vb), .val (.int vc), .val (.int ve), .val (.int vf), .val (.ref (oo 0)), .unset, .unset, .unset, .unset] [(.ref (oo 0))])) (fun t k => ?_) ?_
      · show Steps p.tables e below (T118.setTop (mkF m 83 #[.val (.int p1), .val (.int p2), .val (.int p3), .val (.int p4), .val (.int p5), .val (.int va), .val (.int vb), .val (.int vc), .val (.int ve), .val (.int vf), .val (.ref (oo 0)), .unset, .unset, .unset, .unset] [])) _
        refine XS.aload X118.here hx rfl (hb hby at_83) rfl rfl ?_
        exact k
      obtain ⟨cq119, kq119, qa119, qb119, qc119⟩ := isOf hZ rfl SE_118
      obtain ⟨_, _, ⟨T119, L119, kk119, nn119⟩, -, X119, ⟨Lc119, hQ119, l119, y119, z119⟩, st119⟩ := X118.virtualBack hx (y := (⟨"com/example/physarum/physarum/Proposals", "arrange", "()V"⟩ : MethodName)) (z := (⟨"com/example/physarum/physarum/Proposals", "arrange", "()V"⟩ : MethodName)) hown (mvT hZ (hw _ (List.mem_of_getElem? (i := 45) rfl))) (mvT hZ (hw _ (List.mem_of_getElem? (i := 46) rfl))) (notFace_of_selects (args := #[]) (mvT hZ (hw _ (List.mem_of_getElem? (i := 48) rfl)))) (mvT hZ (hw _ (List.mem_of_getElem? (i := 48) rfl))) (mvT hZ (hw _ (List.mem_of_getElem? (i := 47) rfl))) (by decide) (backOf (W := 0) (rmArr1 l Z a0 hw [] oo kk vc (0 : Int32) (0 : Int32) (0 : Int32) (0 : UInt64) (0 : Int32) (0 : Int32) (0 : UInt64) (0 : UInt64) (0 : UInt64) (0 : Int32) (0 : Int32) (0 : Int32) (own_L0.set (vc).toNatClampNeg (.int (0 : Int32))) (ve.toInt64) (vf.toInt64) T118.heap n0 hz118 hne hn ⟨SE_118, SF_candidates_118, SF_proposed_118, SF_confidences_118, SF_starts_118, SF_arranged_118, SF_taken_118, SF_indices_118, SF_cnt_118, SF_sz_118, SA_1_118, SA_2_118, SA_3_118, SA_4_118, SA_5_118, SA_6_118, SA_7_118⟩ (own_b53 ve) (own_b53 vf)) hZ (hw _ (List.mem_of_getElem? (i := 49) rfl)) (hw _ (List.mem_of_getElem? (i := 2) rfl)) (by decide) (by decide)) qa119 qc119 (g := (mkF m 85 #[.val (.int p1), .val (.int p2), .val (.int p3), .val (.int p4), .val (.int p5), .val (.int va), .val (.int vb), .val (.int vc), .val (.int ve), .val (.int vf), .val (.ref (oo 0)), .unset, .unset, .unset, .unset] [(.ref (oo 0))])) rfl (by rw [hml]; rfl) (Steps.refl _) (argsL := []) (rest := []) (lenOf pd_6 rfl) rfl (by show 2 * 0 + _ ≤ _; exact Nat.le_of_eq rfl) (hb hby at_85) (fun _ _ => ⟨rfl, rfl, (by decide : 8 + 0 ≤ _), (by decide : 254 + 0 ≤ _)⟩)
      dsimp only [Pt.U, Pt.locs, Pt.cells, Pt.slots] at X119 l119 y119 z119 st119 hQ119
      subst l119 y119 z119
      obtain ⟨rfl, Nq119, hz119, HS119⟩ := hQ119
      have N119 := Fr.app N118 Nq119
      obtain ⟨SE_119, SF_candidates_119, SF_proposed_119, SF_confidences_119, SF_starts_119, SF_arranged_119, SF_taken_119, SF_indices_119, SF_cnt_119, SF_sz_119, SA_1_119, SA_2_119, SA_3_119, SA_4_119, SA_5_119, SA_6_119, SA_7_119⟩ := HS119
      refine EndsQ.go (fun t k => st119.trans k) ?_
      show EndsQ _ _ _ _ _ _ _ (T119.setTop (mkF m 88 #[.val (.int p1), .val (.int p2), .val (.int p3), .val (.int p4), .val (.int p5), .val (.int va), .val (.int vb), .val (.int vc), .val (.int ve), .val (.int vf), .val (.ref (oo 0)), .unset, .unset, .unset, .unset] []))
      refine EndsQ.go (b := T119.setTop (mkF m 135 #[.val (.int p1), .val (.int p2), .val (.int p3), .val (.int p4), .val (.int p5), .val (.int va), .val (.int vb), .val (.int vc), .val (.int ve), .val (.int vf), .val (.ref (oo 0)), .val (.int (1 : Int32)), .val (.int (1 : Int32)), .val (.int (2 : Int32)), .unset] [(.int vf), (.int ve)])) (fun t k => ?_) ?_
      · show Steps p.tables e below (T119.setTop (mkF m 88 #[.val (.int p1), .val (.int p2), .val (.int p3), .val (.int p4), .val (.int p5), .val (.int va), .val (.int vb), .val (.int vc), .val (.int ve), .val (.int vf), .val (.ref (oo 0)), .unset, .unset, .unset, .unset] [])) _
        refine XS.iload X119.here hx rfl (hb hby at_88) rfl ?_
        show Steps p.tables e below (T119.setTop (mkF m 90 #[.val (.int p1), .val (.int p2), .val (.int p3), .val (.int p4), .val (.int p5), .val (.int va), .val (.int vb), .val (.int vc), .val (.int ve), .val (.int vf), .val (.ref (oo 0)), .unset, .unset, .unset, .unset] [(.int vc)])) _
        refine XS.iload X119.here hx rfl (hb hby at_90) rfl ?_
        refine XS.icmpNo X119.here hx rfl (hb hby at_92) rfl (teq eca).2 ?_
        show Steps p.tables e below (T119.setTop (mkF m 95 #[.val (.int p1), .val (.int p2), .val (.int p3), .val (.int p4), .val (.int p5), .val (.int va), .val (.int vb), .val (.int vc), .val (.int ve), .val (.int vf), .val (.ref (oo 0)), .unset, .unset, .unset, .unset] [])) _
        refine XS.iconst X119.here hx rfl (hb hby at_95) ?_
        refine XS.goto X119.here hx rfl (pc0 := 96) (pc' := 100) rfl (hb hby at_96) (by decide) (by decide) ?_
        refine XS.istore X119.here hx rfl (hb hby at_100) rfl (l' := #[.val (.int p1), .val (.int p2), .val (.int p3), .val (.int p4), .val (.int p5), .val (.int va), .val (.int vb), .val (.int vc), .val (.int ve), .val (.int vf), .val (.ref (oo 0)), .val (.int (1 : Int32)), .unset, .unset, .unset]) rfl ?_
        show Steps p.tables e below (T119.setTop (mkF m 102 #[.val (.int p1), .val (.int p2), .val (.int p3), .val (.int p4), .val (.int p5), .val (.int va), .val (.int vb), .val (.int vc), .val (.int ve), .val (.int vf), .val (.ref (oo 0)), .val (.int (1 : Int32)), .unset, .unset, .unset] [])) _
        refine XS.iload X119.here hx rfl (hb hby at_102) rfl ?_
        refine XS.ifNo X119.here hx rfl (hb hby at_104) rfl ((if0 _ _).trans (feq (by decide)).1) ?_
        show Steps p.tables e below (T119.setTop (mkF m 107 #[.val (.int p1), .val (.int p2), .val (.int p3), .val (.int p4), .val (.int p5), .val (.int va), .val (.int vb), .val (.int vc), .val (.int ve), .val (.int vf), .val (.ref (oo 0)), .val (.int (1 : Int32)), .unset, .unset, .unset] [])) _
        refine XS.iconst X119.here hx rfl (hb hby at_107) ?_
        refine XS.goto X119.here hx rfl (pc0 := 108) (pc' := 112) rfl (hb hby at_108) (by decide) (by decide) ?_
        refine XS.istore X119.here hx rfl (hb hby at_112) rfl (l' := #[.val (.int p1), .val (.int p2), .val (.int p3), .val (.int p4), .val (.int p5), .val (.int va), .val (.int vb), .val (.int vc), .val (.int ve), .val (.int vf), .val (.ref (oo 0)), .val (.int (1 : Int32)), .val (.int (1 : Int32)), .unset, .unset]) rfl ?_
        show Steps p.tables e below (T119.setTop (mkF m 114 #[.val (.int p1), .val (.int p2), .val (.int p3), .val (.int p4), .val (.int p5), .val (.int va), .val (.int vb), .val (.int vc), .val (.int ve), .val (.int vf), .val (.ref (oo 0)), .val (.int (1 : Int32)), .val (.int (1 : Int32)), .unset, .unset] [])) _
        refine XS.iload X119.here hx rfl (hb hby at_114) rfl ?_
        refine XS.ifNo X119.here hx rfl (hb hby at_116) rfl ((if0 _ _).trans (feq (by decide)).1) ?_
        show Steps p.tables e below (T119.setTop (mkF m 119 #[.val (.int p1), .val (.int p2), .val (.int p3), .val (.int p4), .val (.int p5), .val (.int va), .val (.int vb), .val (.int vc), .val (.int ve), .val (.int vf), .val (.ref (oo 0)), .val (.int (1 : Int32)), .val (.int (1 : Int32)), .unset, .unset] [])) _
        refine XS.iconst X119.here hx rfl (hb hby at_119) ?_
        refine XS.goto X119.here hx rfl (pc0 := 120) (pc' := 124) rfl (hb hby at_120) (by decide) (by decide) ?_
        refine XS.istore X119.here hx rfl (hb hby at_124) rfl (l' := #[.val (.int p1), .val (.int p2), .val (.int p3), .val (.int p4), .val (.int p5), .val (.int va), .val (.int vb), .val (.int vc), .val (.int ve), .val (.int vf), .val (.ref (oo 0)), .val (.int (1 : Int32)), .val (.int (1 : Int32)), .val (.int (2 : Int32)), .unset]) rfl ?_
        show Steps p.tables e below (T119.setTop (mkF m 126 #[.val (.int p1), .val (.int p2), .val (.int p3), .val (.int p4), .val (.int p5), .val (.int va), .val (.int vb), .val (.int vc), .val (.int ve), .val (.int vf), .val (.ref (oo 0)), .val (.int (1 : Int32)), .val (.int (1 : Int32)), .val (.int (2 : Int32)), .unset] [])) _
        refine XS.iload X119.here hx rfl (hb hby at_126) rfl ?_
        refine XS.ifNo X119.here hx rfl (hb hby at_128) rfl ((if0 _ _).trans (feq (by decide)).1) ?_
        show Steps p.tables e below (T119.setTop (mkF m 131 #[.val (.int p1), .val (.int p2), .val (.int p3), .val (.int p4), .val (.int p5), .val (.int va), .val (.int vb), .val (.int vc), .val (.int ve), .val (.int vf), .val (.ref (oo 0)), .val (.int (1 : Int32)), .val (.int (1 : Int32)), .val (.int (2 : Int32)), .unset] [])) _
        refine XS.iload X119.here hx rfl (hb hby at_131) rfl ?_
        refine XS.iload X119.here hx rfl (hb hby at_133) rfl ?_
        exact k
      obtain ⟨_, _, ⟨T120, L120, kk120, nn120⟩, -, X120, ⟨Lc120, hQ120, l120, y120, z120⟩, st120⟩ := Jvm.LawKit.callS X119 hx (y := (⟨"java/lang/Math", "max", "(II)I"⟩ : MethodName)) hown (mvT hZ (hw _ (List.mem_of_getElem? (i := 80) rfl))) (mvT hZ (hw _ (List.mem_of_getElem? (i := 81) rfl))) (mvT hZ (hw _ (List.mem_of_getElem? (i := 82) rfl))) (mvT hZ (hw _ (List.mem_of_getElem? (i := 83) rfl))) (by decide) (backOf (W := 0) (rmMax l Z a0 hw [] ve vf T119.heap n0 hz119 ) hZ (hw _ (List.mem_of_getElem? (i := 83) rfl)) (hw _ (List.mem_of_getElem? (i := 82) rfl)) (by decide) (by decide)) (g := (mkF m 135 #[.val (.int p1), .val (.int p2), .val (.int p3), .val (.int p4), .val (.int p5), .val (.int va), .val (.int vb), .val (.int vc), .val (.int ve), .val (.int vf), .val (.ref (oo 0)), .val (.int (1 : Int32)), .val (.int (1 : Int32)), .val (.int (2 : Int32)), .unset] [(.int vf), (.int ve)])) rfl (by rw [hml]; rfl) (argsL := [(.int ve), (.int vf)]) (rest := []) (lenOf pd_7 rfl) rfl (by show 2 * 0 + _ ≤ _; exact Nat.le_of_eq rfl) (hb hby at_135) (fun _ _ => ⟨rfl, rfl, (by decide : 8 + 0 ≤ _), (by decide : 254 + 0 ≤ _)⟩)
      dsimp only [Pt.U, Pt.locs, Pt.cells, Pt.slots] at X120 l120 y120 z120 st120 hQ120
      subst l120 y120 z120
      obtain ⟨rfl, Nq120, eq120⟩ := hQ120
      have N120 := Fr.app N119 Nq120
      refine EndsQ.go st120 ?_
      show EndsQ _ _ _ _ _ _ _ (T120.setTop (mkF m 138 #[.val (.int p1), .val (.int p2), .val (.int p3), .val (.int p4), .val (.int p5), .val (.int va), .val (.int vb), .val (.int vc), .val (.int ve), .val (.int vf), .val (.ref (oo 0)), .val (.int (1 : Int32)), .val (.int (1 : Int32)), .val (.int (2 : Int32)), .unset] [(.int (own_max ve vf))]))
      refine EndsQ.go (b := T120.setTop (mkF m 147 #[.val (.int p1), .val (.int p2), .val (.int p3), .val (.int p4), .val (.int p5), .val (.int va), .val (.int vb), .val (.int vc), .val (.int ve), .val (.int vf), .val (.ref (oo 0)), .val (.int (1 : Int32)), .val (.int (1 : Int32)), .val (.int (2 : Int32)), .val (.int (own_max ve vf))] [(.ref (oo 0))])) (fun t k => ?_) ?_
      · show Steps p.tables e below (T120.setTop (mkF m 138 #[.val (.int p1), .val (.int p2), .val (.int p3), .val (.int p4), .val (.int p5), .val (.int va), .val (.int vb), .val (.int vc), .val (.int ve), .val (.int vf), .val (.ref (oo 0)), .val (.int (1 : Int32)), .val (.int (1 : Int32)), .val (.int (2 : Int32)), .unset] [(.int (own_max ve vf))])) _
        refine XS.goto X120.here hx rfl (pc0 := 138) (pc' := 143) rfl (hb hby at_138) (by decide) (by decide) ?_
        show Steps p.tables e below (T120.setTop (mkF m 143 #[.val (.int p1), .val (.int p2), .val (.int p3), .val (.int p4), .val (.int p5), .val (.int va), .val (.int vb), .val (.int vc), .val (.int ve), .val (.int vf), .val (.ref (oo 0)), .val (.int (1 : Int32)), .val (.int (1 : Int32)), .val (.int (2 : Int32)), .unset] [(.int (own_max ve vf))])) _
        refine XS.istore X120.here hx rfl (hb hby at_143) rfl (l' := #[.val (.int p1), .val (.int p2), .val (.int p3), .val (.int p4), .val (.int p5), .val (.int va), .val (.int vb), .val (.int vc), .val (.int ve), .val (.int vf), .val (.ref (oo 0)), .val (.int (1 : Int32)), .val (.int (1 : Int32)), .val (.int (2 : Int32)), .val (.int (own_max ve vf))]) rfl ?_
        refine XS.aload X120.here hx rfl (hb hby at_145) rfl rfl ?_
        exact k
      obtain ⟨cq121, kq121, qa121, qb121, qc121⟩ := isOf hZ eq120 SE_119
      obtain ⟨_, _, ⟨T121, L121, kk121, nn121⟩, -, X121, ⟨Lc121, hQ121, l121, y121, z121⟩, st121⟩ := X120.virtualBack hx (y := (⟨"com/example/physarum/physarum/Proposals", "size", "()I"⟩ : MethodName)) (z := (⟨"com/example/physarum/physarum/Proposals", "size", "()I"⟩ : MethodName)) hown (mvT hZ (hw _ (List.mem_of_getElem? (i := 55) rfl))) (mvT hZ (hw _ (List.mem_of_getElem? (i := 56) rfl))) (notFace_of_selects (args := #[]) (mvT hZ (hw _ (List.mem_of_getElem? (i := 58) rfl)))) (mvT hZ (hw _ (List.mem_of_getElem? (i := 58) rfl))) (mvT hZ (hw _ (List.mem_of_getElem? (i := 57) rfl))) (by decide) (backOf (W := 0) (rmSz l Z a0 hw [] oo kk vc (0 : Int32) (0 : Int32) (0 : Int32) (0 : Int32) (0 : Int32) (FP.l2d (ve.toInt64)) (FP.l2d (vf.toInt64)) (0 : UInt64) (0 : Int32) (2 : Int32) (0 : Int32) (FP.l2d (if (ve.toInt64) < (vf.toInt64) then (vf.toInt64) else (ve.toInt64))) (FP.l2d (if (ve.toInt64) < (vf.toInt64) then (ve.toInt64) else (vf.toInt64))) (0 : UInt64) (0 : Int32) (0 : Int32) (0 : Int32) (own_L0.set (vc).toNatClampNeg (.int (0 : Int32))) (1 : Int32) (2 : Int32) T119.heap n0 hz119 hne hn ⟨SE_119, SF_candidates_119, SF_proposed_119, SF_confidences_119, SF_starts_119, SF_arranged_119, SF_taken_119, SF_indices_119, SF_cnt_119, SF_sz_119, SA_1_119, SA_2_119, SA_3_119, SA_4_119, SA_5_119, SA_6_119, SA_7_119⟩) hZ (hw _ (List.mem_of_getElem? (i := 59) rfl)) (hw _ (List.mem_of_getElem? (i := 2) rfl)) (by decide) (by decide)) qa121 qc121 (g := (mkF m 147 #[.val (.int p1), .val (.int p2), .val (.int p3), .val (.int p4), .val (.int p5), .val (.int va), .val (.int vb), .val (.int vc), .val (.int ve), .val (.int vf), .val (.ref (oo 0)), .val (.int (1 : Int32)), .val (.int (1 : Int32)), .val (.int (2 : Int32)), .val (.int (own_max ve vf))] [(.ref (oo 0))])) rfl (by rw [hml]; rfl) (Steps.refl _) (argsL := []) (rest := []) (lenOf pd_8 rfl) rfl (by show 2 * 0 + _ ≤ _; exact Nat.le_of_eq rfl) (hb hby at_147) (fun _ _ => ⟨rfl, eq120, (by decide : 8 + 0 ≤ _), (by decide : 254 + 0 ≤ _)⟩)
      dsimp only [Pt.U, Pt.locs, Pt.cells, Pt.slots] at X121 l121 y121 z121 st121 hQ121
      subst l121 y121 z121
      obtain ⟨rfl, Nq121, eq121⟩ := hQ121
      have N121 := Fr.app N120 Nq121
      refine EndsQ.go (fun t k => st121.trans k) ?_
      show EndsQ _ _ _ _ _ _ _ (T121.setTop (mkF m 150 #[.val (.int p1), .val (.int p2), .val (.int p3), .val (.int p4), .val (.int p5), .val (.int va), .val (.int vb), .val (.int vc), .val (.int ve), .val (.int vf), .val (.ref (oo 0)), .val (.int (1 : Int32)), .val (.int (1 : Int32)), .val (.int (2 : Int32)), .val (.int (own_max ve vf))] [(.int (1 : Int32))]))
      refine EndsQ.go (b := T121.setTop (mkF m 158 #[.val (.int p1), .val (.int p2), .val (.int p3), .val (.int p4), .val (.int p5), .val (.int va), .val (.int vb), .val (.int vc), .val (.int ve), .val (.int vf), .val (.ref (oo 0)), .val (.int (1 : Int32)), .val (.int (1 : Int32)), .val (.int (2 : Int32)), .val (.int (own_max ve vf))] [(.int (0 : Int32)), (.ref (oo 0))])) (fun t k => ?_) ?_
      · show Steps p.tables e below (T121.setTop (mkF m 150 #[.val (.int p1), .val (.int p2), .val (.int p3), .val (.int p4), .val (.int p5), .val (.int va), .val (.int vb), .val (.int vc), .val (.int ve), .val (.int vf), .val (.ref (oo 0)), .val (.int (1 : Int32)), .val (.int (1 : Int32)), .val (.int (2 : Int32)), .val (.int (own_max ve vf))] [(.int (1 : Int32))])) _
        refine XS.iload X121.here hx rfl (hb hby at_150) rfl ?_
        refine XS.icmpNo X121.here hx rfl (hb hby at_152) rfl (teq (by decide)).2 ?_
        show Steps p.tables e below (T121.setTop (mkF m 155 #[.val (.int p1), .val (.int p2), .val (.int p3), .val (.int p4), .val (.int p5), .val (.int va), .val (.int vb), .val (.int vc), .val (.int ve), .val (.int vf), .val (.ref (oo 0)), .val (.int (1 : Int32)), .val (.int (1 : Int32)), .val (.int (2 : Int32)), .val (.int (own_max ve vf))] [])) _
        refine XS.aload X121.here hx rfl (hb hby at_155) rfl rfl ?_
        show Steps p.tables e below (T121.setTop (mkF m 157 #[.val (.int p1), .val (.int p2), .val (.int p3), .val (.int p4), .val (.int p5), .val (.int va), .val (.int vb), .val (.int vc), .val (.int ve), .val (.int vf), .val (.ref (oo 0)), .val (.int (1 : Int32)), .val (.int (1 : Int32)), .val (.int (2 : Int32)), .val (.int (own_max ve vf))] [(.ref (oo 0))])) _
        refine XS.iconst X121.here hx rfl (hb hby at_157) ?_
        exact k
      obtain ⟨cq122, kq122, qa122, qb122, qc122⟩ := isOf hZ eq121 SE_119
      obtain ⟨_, _, ⟨T122, L122, kk122, nn122⟩, -, X122, ⟨Lc122, hQ122, l122, y122, z122⟩, st122⟩ := X121.virtualBack hx (y := (⟨"com/example/physarum/physarum/Proposals", "candidate", "(I)I"⟩ : MethodName)) (z := (⟨"com/example/physarum/physarum/Proposals", "candidate", "(I)I"⟩ : MethodName)) hown (mvT hZ (hw _ (List.mem_of_getElem? (i := 60) rfl))) (mvT hZ (hw _ (List.mem_of_getElem? (i := 61) rfl))) (notFace_of_selects (args := #[]) (mvT hZ (hw _ (List.mem_of_getElem? (i := 63) rfl)))) (mvT hZ (hw _ (List.mem_of_getElem? (i := 63) rfl))) (mvT hZ (hw _ (List.mem_of_getElem? (i := 62) rfl))) (by decide) (backOf (W := 0) (rmCa l Z a0 hw [] oo kk vc (0 : Int32) (0 : Int32) (0 : Int32) (0 : Int32) (0 : Int32) (FP.l2d (ve.toInt64)) (FP.l2d (vf.toInt64)) (0 : UInt64) (0 : Int32) (2 : Int32) (0 : Int32) (FP.l2d (if (ve.toInt64) < (vf.toInt64) then (vf.toInt64) else (ve.toInt64))) (FP.l2d (if (ve.toInt64) < (vf.toInt64) then (ve.toInt64) else (vf.toInt64))) (0 : UInt64) (0 : Int32) (0 : Int32) (0 : Int32) (own_L0.set (vc).toNatClampNeg (.int (0 : Int32))) (1 : Int32) (2 : Int32) T119.heap n0 hz119 hne hn ⟨SE_119, SF_candidates_119, SF_proposed_119, SF_confidences_119, SF_starts_119, SF_arranged_119, SF_taken_119, SF_indices_119, SF_cnt_119, SF_sz_119, SA_1_119, SA_2_119, SA_3_119, SA_4_119, SA_5_119, SA_6_119, SA_7_119⟩) hZ (hw _ (List.mem_of_getElem? (i := 64) rfl)) (hw _ (List.mem_of_getElem? (i := 2) rfl)) (by decide) (by decide)) qa122 qc122 (g := (mkF m 158 #[.val (.int p1), .val (.int p2), .val (.int p3), .val (.int p4), .val (.int p5), .val (.int va), .val (.int vb), .val (.int vc), .val (.int ve), .val (.int vf), .val (.ref (oo 0)), .val (.int (1 : Int32)), .val (.int (1 : Int32)), .val (.int (2 : Int32)), .val (.int (own_max ve vf))] [(.int (0 : Int32)), (.ref (oo 0))])) rfl (by rw [hml]; rfl) (Steps.refl _) (argsL := [(.int (0 : Int32))]) (rest := []) (lenOf pd_1 rfl) rfl (by show 2 * 0 + _ ≤ _; exact Nat.le_of_eq rfl) (hb hby at_158) (fun _ _ => ⟨rfl, eq121, (by decide : 8 + 0 ≤ _), (by decide : 254 + 0 ≤ _)⟩)
      dsimp only [Pt.U, Pt.locs, Pt.cells, Pt.slots] at X122 l122 y122 z122 st122 hQ122
      subst l122 y122 z122
      obtain ⟨rfl, Nq122, eq122⟩ := hQ122
      have N122 := Fr.app N121 Nq122
      refine EndsQ.go (fun t k => st122.trans k) ?_
      show EndsQ _ _ _ _ _ _ _ (T122.setTop (mkF m 161 #[.val (.int p1), .val (.int p2), .val (.int p3), .val (.int p4), .val (.int p5), .val (.int va), .val (.int vb), .val (.int vc), .val (.int ve), .val (.int vf), .val (.ref (oo 0)), .val (.int (1 : Int32)), .val (.int (1 : Int32)), .val (.int (2 : Int32)), .val (.int (own_max ve vf))] [(.int vc)]))
      refine EndsQ.go (b := T122.setTop (mkF m 169 #[.val (.int p1), .val (.int p2), .val (.int p3), .val (.int p4), .val (.int p5), .val (.int va), .val (.int vb), .val (.int vc), .val (.int ve), .val (.int vf), .val (.ref (oo 0)), .val (.int (1 : Int32)), .val (.int (1 : Int32)), .val (.int (2 : Int32)), .val (.int (own_max ve vf))] [(.int (0 : Int32)), (.ref (oo 0))])) (fun t k => ?_) ?_
      · show Steps p.tables e below (T122.setTop (mkF m 161 #[.val (.int p1), .val (.int p2), .val (.int p3), .val (.int p4), .val (.int p5), .val (.int va), .val (.int vb), .val (.int vc), .val (.int ve), .val (.int vf), .val (.ref (oo 0)), .val (.int (1 : Int32)), .val (.int (1 : Int32)), .val (.int (2 : Int32)), .val (.int (own_max ve vf))] [(.int vc)])) _
        refine XS.iload X122.here hx rfl (hb hby at_161) rfl ?_
        refine XS.icmpNo X122.here hx rfl (hb hby at_163) rfl (teq rfl).2 ?_
        show Steps p.tables e below (T122.setTop (mkF m 166 #[.val (.int p1), .val (.int p2), .val (.int p3), .val (.int p4), .val (.int p5), .val (.int va), .val (.int vb), .val (.int vc), .val (.int ve), .val (.int vf), .val (.ref (oo 0)), .val (.int (1 : Int32)), .val (.int (1 : Int32)), .val (.int (2 : Int32)), .val (.int (own_max ve vf))] [])) _
        refine XS.aload X122.here hx rfl (hb hby at_166) rfl rfl ?_
        refine XS.iconst X122.here hx rfl (hb hby at_168) ?_
        show Steps p.tables e below (T122.setTop (mkF m 169 #[.val (.int p1), .val (.int p2), .val (.int p3), .val (.int p4), .val (.int p5), .val (.int va), .val (.int vb), .val (.int vc), .val (.int ve), .val (.int vf), .val (.ref (oo 0)), .val (.int (1 : Int32)), .val (.int (1 : Int32)), .val (.int (2 : Int32)), .val (.int (own_max ve vf))] [(.int (0 : Int32)), (.ref (oo 0))])) _
        exact k
      obtain ⟨cq123, kq123, qa123, qb123, qc123⟩ := isOf hZ eq122 SE_119
      obtain ⟨_, _, ⟨T123, L123, kk123, nn123⟩, -, X123, ⟨Lc123, hQ123, l123, y123, z123⟩, st123⟩ := X122.virtualBack hx (y := (⟨"com/example/physarum/physarum/Proposals", "count", "(I)I"⟩ : MethodName)) (z := (⟨"com/example/physarum/physarum/Proposals", "count", "(I)I"⟩ : MethodName)) hown (mvT hZ (hw _ (List.mem_of_getElem? (i := 65) rfl))) (mvT hZ (hw _ (List.mem_of_getElem? (i := 51) rfl))) (notFace_of_selects (args := #[]) (mvT hZ (hw _ (List.mem_of_getElem? (i := 53) rfl)))) (mvT hZ (hw _ (List.mem_of_getElem? (i := 53) rfl))) (mvT hZ (hw _ (List.mem_of_getElem? (i := 52) rfl))) (by decide) (backOf (W := 0) (rmCo0 l Z a0 hw [] oo kk vc (0 : Int32) (0 : Int32) (0 : Int32) (0 : Int32) (0 : Int32) (FP.l2d (ve.toInt64)) (FP.l2d (vf.toInt64)) (0 : UInt64) (0 : Int32) (2 : Int32) (0 : Int32) (FP.l2d (if (ve.toInt64) < (vf.toInt64) then (vf.toInt64) else (ve.toInt64))) (FP.l2d (if (ve.toInt64) < (vf.toInt64) then (ve.toInt64) else (vf.toInt64))) (0 : UInt64) (0 : Int32) (0 : Int32) (0 : Int32) (own_L0.set (vc).toNatClampNeg (.int (0 : Int32))) (1 : Int32) (2 : Int32) T119.heap n0 hz119 hne hn ⟨SE_119, SF_candidates_119, SF_proposed_119, SF_confidences_119, SF_starts_119, SF_arranged_119, SF_taken_119, SF_indices_119, SF_cnt_119, SF_sz_119, SA_1_119, SA_2_119, SA_3_119, SA_4_119, SA_5_119, SA_6_119, SA_7_119⟩) hZ (hw _ (List.mem_of_getElem? (i := 54) rfl)) (hw _ (List.mem_of_getElem? (i := 2) rfl)) (by decide) (by decide)) qa123 qc123 (g := (mkF m 169 #[.val (.int p1), .val (.int p2), .val (.int p3), .val (.int p4), .val (.int p5), .val (.int va), .val (.int vb), .val (.int vc), .val (.int ve), .val (.int vf), .val (.ref (oo 0)), .val (.int (1 : Int32)), .val (.int (1 : Int32)), .val (.int (2 : Int32)), .val (.int (own_max ve vf))] [(.int (0 : Int32)), (.ref (oo 0))])) rfl (by rw [hml]; rfl) (Steps.refl _) (argsL := [(.int (0 : Int32))]) (rest := []) (lenOf pd_1 rfl) rfl (by show 2 * 0 + _ ≤ _; exact Nat.le_of_eq rfl) (hb hby at_169) (fun _ _ => ⟨rfl, eq122, (by decide : 8 + 0 ≤ _), (by decide : 254 + 0 ≤ _)⟩)
      dsimp only [Pt.U, Pt.locs, Pt.cells, Pt.slots] at X123 l123 y123 z123 st123 hQ123
      subst l123 y123 z123
      obtain ⟨rfl, Nq123, eq123⟩ := hQ123
      have N123 := Fr.app N122 Nq123
      refine EndsQ.go (fun t k => st123.trans k) ?_
      show EndsQ _ _ _ _ _ _ _ (T123.setTop (mkF m 172 #[.val (.int p1), .val (.int p2), .val (.int p3), .val (.int p4), .val (.int p5), .val (.int va), .val (.int vb), .val (.int vc), .val (.int ve), .val (.int vf), .val (.ref (oo 0)), .val (.int (1 : Int32)), .val (.int (1 : Int32)), .val (.int (2 : Int32)), .val (.int (own_max ve vf))] [(.int ((2 : Int32) - (0 : Int32)))]))
      rw [(by decide : ((2 : Int32) - (0 : Int32)) = (2 : Int32))]
      show EndsQ _ _ _ _ _ _ _ (T123.setTop (mkF m 172 #[.val (.int p1), .val (.int p2), .val (.int p3), .val (.int p4), .val (.int p5), .val (.int va), .val (.int vb), .val (.int vc), .val (.int ve), .val (.int vf), .val (.ref (oo 0)), .val (.int (1 : Int32)), .val (.int (1 : Int32)), .val (.int (2 : Int32)), .val (.int (own_max ve vf))] [(.int (2 : Int32))]))
      refine EndsQ.go (b := T123.setTop (mkF m 180 #[.val (.int p1), .val (.int p2), .val (.int p3), .val (.int p4), .val (.int p5), .val (.int va), .val (.int vb), .val (.int vc), .val (.int ve), .val (.int vf), .val (.ref (oo 0)), .val (.int (1 : Int32)), .val (.int (1 : Int32)), .val (.int (2 : Int32)), .val (.int (own_max ve vf))] [(.int (0 : Int32)), (.ref (oo 0))])) (fun t k => ?_) ?_
      · show Steps p.tables e below (T123.setTop (mkF m 172 #[.val (.int p1), .val (.int p2), .val (.int p3), .val (.int p4), .val (.int p5), .val (.int va), .val (.int vb), .val (.int vc), .val (.int ve), .val (.int vf), .val (.ref (oo 0)), .val (.int (1 : Int32)), .val (.int (1 : Int32)), .val (.int (2 : Int32)), .val (.int (own_max ve vf))] [(.int (2 : Int32))])) _
        refine XS.iload X123.here hx rfl (hb hby at_172) rfl ?_
        refine XS.icmpNo X123.here hx rfl (hb hby at_174) rfl (teq (by decide)).2 ?_
        show Steps p.tables e below (T123.setTop (mkF m 177 #[.val (.int p1), .val (.int p2), .val (.int p3), .val (.int p4), .val (.int p5), .val (.int va), .val (.int vb), .val (.int vc), .val (.int ve), .val (.int vf), .val (.ref (oo 0)), .val (.int (1 : Int32)), .val (.int (1 : Int32)), .val (.int (2 : Int32)), .val (.int (own_max ve vf))] [])) _
        refine XS.aload X123.here hx rfl (hb hby at_177) rfl rfl ?_
        refine XS.iconst X123.here hx rfl (hb hby at_179) ?_
        exact k
      obtain ⟨cq124, kq124, qa124, qb124, qc124⟩ := isOf hZ eq123 SE_119
      obtain ⟨_, _, ⟨T124, L124, kk124, nn124⟩, -, X124, ⟨Lc124, hQ124, l124, y124, z124⟩, st124⟩ := X123.virtualBack hx (y := (⟨"com/example/physarum/physarum/Proposals", "highest", "(I)D"⟩ : MethodName)) (z := (⟨"com/example/physarum/physarum/Proposals", "highest", "(I)D"⟩ : MethodName)) hown (mvT hZ (hw _ (List.mem_of_getElem? (i := 66) rfl))) (mvT hZ (hw _ (List.mem_of_getElem? (i := 67) rfl))) (notFace_of_selects (args := #[]) (mvT hZ (hw _ (List.mem_of_getElem? (i := 69) rfl)))) (mvT hZ (hw _ (List.mem_of_getElem? (i := 69) rfl))) (mvT hZ (hw _ (List.mem_of_getElem? (i := 68) rfl))) (by decide) (backOf (W := 0) (rmHigh1 l Z a0 hw [] oo kk vc (0 : Int32) (0 : Int32) (0 : Int32) (0 : Int32) (0 : Int32) (FP.l2d (ve.toInt64)) (FP.l2d (vf.toInt64)) (0 : UInt64) (0 : Int32) (FP.l2d (if (ve.toInt64) < (vf.toInt64) then (vf.toInt64) else (ve.toInt64))) (FP.l2d (if (ve.toInt64) < (vf.toInt64) then (ve.toInt64) else (vf.toInt64))) (0 : UInt64) (0 : Int32) (0 : Int32) (own_L0.set (vc).toNatClampNeg (.int (0 : Int32))) (1 : Int32) (2 : Int32) T119.heap n0 hz119 hne hn ⟨SE_119, SF_candidates_119, SF_proposed_119, SF_confidences_119, SF_starts_119, SF_arranged_119, SF_taken_119, SF_indices_119, SF_cnt_119, SF_sz_119, SA_1_119, SA_2_119, SA_3_119, SA_4_119, SA_5_119, SA_6_119, SA_7_119⟩ ) hZ (hw _ (List.mem_of_getElem? (i := 70) rfl)) (hw _ (List.mem_of_getElem? (i := 2) rfl)) (by decide) (by decide)) qa124 qc124 (g := (mkF m 180 #[.val (.int p1), .val (.int p2), .val (.int p3), .val (.int p4), .val (.int p5), .val (.int va), .val (.int vb), .val (.int vc), .val (.int ve), .val (.int vf), .val (.ref (oo 0)), .val (.int (1 : Int32)), .val (.int (1 : Int32)), .val (.int (2 : Int32)), .val (.int (own_max ve vf))] [(.int (0 : Int32)), (.ref (oo 0))])) rfl (by rw [hml]; rfl) (Steps.refl _) (argsL := [(.int (0 : Int32))]) (rest := []) (lenOf pd_9 rfl) rfl (by show 2 * 0 + _ ≤ _; exact Nat.le_of_eq rfl) (hb hby at_180) (fun _ _ => ⟨rfl, eq123, (by decide : 8 + 0 ≤ _), (by decide : 254 + 0 ≤ _)⟩)
      dsimp only [Pt.U, Pt.locs, Pt.cells, Pt.slots] at X124 l124 y124 z124 st124 hQ124
      subst l124 y124 z124
      obtain ⟨rfl, Nq124, hz124, HS124⟩ := hQ124
      have N124 := Fr.app N123 Nq124
      obtain ⟨SE_124, SF_candidates_124, SF_proposed_124, SF_confidences_124, SF_starts_124, SF_arranged_124, SF_taken_124, SF_indices_124, SF_cnt_124, SF_sz_124, SA_1_124, SA_2_124, SA_3_124, SA_4_124, SA_5_124, SA_6_124, SA_7_124⟩ := HS124
      refine EndsQ.go (fun t k => st124.trans k) ?_
      show EndsQ _ _ _ _ _ _ _ (T124.setTop (mkF m 183 #[.val (.int p1), .val (.int p2), .val (.int p3), .val (.int p4), .val (.int p5), .val (.int va), .val (.int vb), .val (.int vc), .val (.int ve), .val (.int vf), .val (.ref (oo 0)), .val (.int (1 : Int32)), .val (.int (1 : Int32)), .val (.int (2 : Int32)), .val (.int (own_max ve vf))] [(.double (FP.l2d (if (ve.toInt64) < (vf.toInt64) then (vf.toInt64) else (ve.toInt64))))]))
      refine EndsQ.go (b := T124.setTop (mkF m 195 #[.val (.int p1), .val (.int p2), .val (.int p3), .val (.int p4), .val (.int p5), .val (.int va), .val (.int vb), .val (.int vc), .val (.int ve), .val (.int vf), .val (.ref (oo 0)), .val (.int (1 : Int32)), .val (.int (1 : Int32)), .val (.int (2 : Int32)), .val (.int (own_max ve vf))] [(.int (1 : Int32))])) (fun t k => ?_) ?_
      · show Steps p.tables e below (T124.setTop (mkF m 183 #[.val (.int p1), .val (.int p2), .val (.int p3), .val (.int p4), .val (.int p5), .val (.int va), .val (.int vb), .val (.int vc), .val (.int ve), .val (.int vf), .val (.ref (oo 0)), .val (.int (1 : Int32)), .val (.int (1 : Int32)), .val (.int (2 : Int32)), .val (.int (own_max ve vf))] [(.double (FP.l2d (if (ve.toInt64) < (vf.toInt64) then (vf.toInt64) else (ve.toInt64))))])) _
        refine XS.iload X124.here hx rfl (hb hby at_183) rfl ?_
        show Steps p.tables e below (T124.setTop (mkF m 185 #[.val (.int p1), .val (.int p2), .val (.int p3), .val (.int p4), .val (.int p5), .val (.int va), .val (.int vb), .val (.int vc), .val (.int ve), .val (.int vf), .val (.ref (oo 0)), .val (.int (1 : Int32)), .val (.int (1 : Int32)), .val (.int (2 : Int32)), .val (.int (own_max ve vf))] [(.int (own_max ve vf)), (.double (FP.l2d (if (ve.toInt64) < (vf.toInt64) then (vf.toInt64) else (ve.toInt64))))])) _
        refine XS.i2dS X124.here hx rfl (hb hby at_185) rfl (i2d_w _) ?_
        refine XS.dcmpS X124.here hx rfl (hb hby at_186) rfl (dcmpV_w (by have a := own_b53 ve; have b := own_b53 vf; split <;> assumption) (own_b53 _) .l) ?_
        refine XS.ifNo X124.here hx rfl (hb hby at_187) rfl ((if0 _ _).trans (teq ((lw_eq (if (ve.toInt64) < (vf.toInt64) then (vf.toInt64) else (ve.toInt64)) ((own_max ve vf).toInt64)).mpr (own_mx ve vf))).2) ?_
        show Steps p.tables e below (T124.setTop (mkF m 190 #[.val (.int p1), .val (.int p2), .val (.int p3), .val (.int p4), .val (.int p5), .val (.int va), .val (.int vb), .val (.int vc), .val (.int ve), .val (.int vf), .val (.ref (oo 0)), .val (.int (1 : Int32)), .val (.int (1 : Int32)), .val (.int (2 : Int32)), .val (.int (own_max ve vf))] [])) _
        refine XS.iconst X124.here hx rfl (hb hby at_190) ?_
        refine XS.goto X124.here hx rfl (pc0 := 191) (pc' := 195) rfl (hb hby at_191) (by decide) (by decide) ?_
        show Steps p.tables e below (T124.setTop (mkF m 195 #[.val (.int p1), .val (.int p2), .val (.int p3), .val (.int p4), .val (.int p5), .val (.int va), .val (.int vb), .val (.int vc), .val (.int ve), .val (.int vf), .val (.ref (oo 0)), .val (.int (1 : Int32)), .val (.int (1 : Int32)), .val (.int (2 : Int32)), .val (.int (own_max ve vf))] [(.int (1 : Int32))])) _
        exact k
      refine EndsQ.retN X124 hx Bd.notSynchronized (t := .boolean) Bd.returns (by simp) (hb hby at_195) (by decide) (by decide) ?_
      show Q0 Z p1 p2 p3 p4 p5 h0 n0 (some (.int (nar .boolean (1 : Int32)))) T124.heap _
      exact ⟨rfl, N124⟩
    · have hq_eca := eca
      refine EndsQ.go (b := T115.setTop (mkF m 70 #[.val (.int p1), .val (.int p2), .val (.int p3), .val (.int p4), .val (.int p5), .val (.int va), .val (.int vb), .val (.int vc), .val (.int ve), .val (.int vf), .val (.ref (oo 0)), .unset, .unset, .unset, .unset] [(.double (FP.l2d (ve.toInt64))), (.int vc), (.ref (oo 0))])) (fun t k => ?_) ?_
      · show Steps p.tables e below (T115.setTop (mkF m 63 #[.val (.int p1), .val (.int p2), .val (.int p3), .val (.int p4), .val (.int p5), .val (.int va), .val (.int vb), .val (.int vc), .val (.int ve), .val (.int vf), .val (.ref (oo 0)), .unset, .unset, .unset, .unset] [])) _
        refine XS.aload X115.here hx rfl (hb hby at_63) rfl rfl ?_
        refine XS.iload X115.here hx rfl (hb hby at_65) rfl ?_
        refine XS.iload X115.here hx rfl (hb hby at_67) rfl ?_
        refine XS.i2dS X115.here hx rfl (hb hby at_69) rfl (i2d_w _) ?_
        show Steps p.tables e below (T115.setTop (mkF m 70 #[.val (.int p1), .val (.int p2), .val (.int p3), .val (.int p4), .val (.int p5), .val (.int va), .val (.int vb), .val (.int vc), .val (.int ve), .val (.int vf), .val (.ref (oo 0)), .unset, .unset, .unset, .unset] [(.double (FP.l2d (ve.toInt64))), (.int vc), (.ref (oo 0))])) _
        exact k
      obtain ⟨cq125, kq125, qa125, qb125, qc125⟩ := isOf hZ rfl SE_115
      obtain ⟨_, _, ⟨T125, L125, kk125, nn125⟩, -, X125, ⟨Lc125, hQ125, l125, y125, z125⟩, st125⟩ := X115.virtualBack hx (y := (⟨"com/example/physarum/physarum/Proposals", "add", "(ID)V"⟩ : MethodName)) (z := (⟨"com/example/physarum/physarum/Proposals", "add", "(ID)V"⟩ : MethodName)) hown (mvT hZ (hw _ (List.mem_of_getElem? (i := 30) rfl))) (mvT hZ (hw _ (List.mem_of_getElem? (i := 31) rfl))) (notFace_of_selects (args := #[]) (mvT hZ (hw _ (List.mem_of_getElem? (i := 33) rfl)))) (mvT hZ (hw _ (List.mem_of_getElem? (i := 33) rfl))) (mvT hZ (hw _ (List.mem_of_getElem? (i := 32) rfl))) (by decide) (backOf (W := 0) (rmAddN0 l Z a0 hw [] vc (FP.l2d (ve.toInt64)) oo kk va (0 : Int32) (0 : Int32) (0 : Int32) (0 : Int32) (0 : Int32) (4636737291354636288 : UInt64) (4641240890982006784 : UInt64) (0 : UInt64) (2 : Int32) (0 : Int32) (0 : Int32) (0 : UInt64) (0 : UInt64) (0 : UInt64) (0 : Int32) (0 : Int32) (0 : Int32) own_L0 T115.heap n0 hz115 hne hn ⟨SE_115, SF_candidates_115, SF_proposed_115, SF_confidences_115, SF_starts_115, SF_arranged_115, SF_taken_115, SF_indices_115, SF_cnt_115, SF_sz_115, SA_1_115, SA_2_115, SA_3_115, SA_4_115, SA_5_115, SA_6_115, fx116⟩ (by first | exact own_len0 | (simp only [List.length_set]; exact own_len0)) hc_ (own_g0 vc hc_)) hZ (hw _ (List.mem_of_getElem? (i := 34) rfl)) (hw _ (List.mem_of_getElem? (i := 2) rfl)) (by decide) (by decide)) qa125 qc125 (g := (mkF m 70 #[.val (.int p1), .val (.int p2), .val (.int p3), .val (.int p4), .val (.int p5), .val (.int va), .val (.int vb), .val (.int vc), .val (.int ve), .val (.int vf), .val (.ref (oo 0)), .unset, .unset, .unset, .unset] [(.double (FP.l2d (ve.toInt64))), (.int vc), (.ref (oo 0))])) rfl (by rw [hml]; rfl) (Steps.refl _) (argsL := [(.int vc), (.double (FP.l2d (ve.toInt64)))]) (rest := []) (lenOf pd_5 rfl) rfl (by show 2 * 0 + _ ≤ _; exact Nat.le_of_eq rfl) (hb hby at_70) (fun _ _ => ⟨rfl, rfl, (by decide : 8 + 0 ≤ _), (by decide : 254 + 0 ≤ _)⟩)
      dsimp only [Pt.U, Pt.locs, Pt.cells, Pt.slots] at X125 l125 y125 z125 st125 hQ125
      subst l125 y125 z125
      obtain ⟨rfl, Nq125, hz125, HS125⟩ := hQ125
      have N125 := Fr.app N115 Nq125
      obtain ⟨SE_125, SF_candidates_125, SF_proposed_125, SF_confidences_125, SF_starts_125, SF_arranged_125, SF_taken_125, SF_indices_125, SF_cnt_125, SF_sz_125, SA_1_125, SA_2_125, SA_3_125, SA_4_125, SA_5_125, SA_6_125, SA_7_125⟩ := HS125
      refine EndsQ.go (fun t k => st125.trans k) ?_
      show EndsQ _ _ _ _ _ _ _ (T125.setTop (mkF m 73 #[.val (.int p1), .val (.int p2), .val (.int p3), .val (.int p4), .val (.int p5), .val (.int va), .val (.int vb), .val (.int vc), .val (.int ve), .val (.int vf), .val (.ref (oo 0)), .unset, .unset, .unset, .unset] []))
      refine EndsQ.go (b := T125.setTop (mkF m 80 #[.val (.int p1), .val (.int p2), .val (.int p3), .val (.int p4), .val (.int p5), .val (.int va), .val (.int vb), .val (.int vc), .val (.int ve), .val (.int vf), .val (.ref (oo 0)), .unset, .unset, .unset, .unset] [(.double (FP.l2d (vf.toInt64))), (.int va), (.ref (oo 0))])) (fun t k => ?_) ?_
      · show Steps p.tables e below (T125.setTop (mkF m 73 #[.val (.int p1), .val (.int p2), .val (.int p3), .val (.int p4), .val (.int p5), .val (.int va), .val (.int vb), .val (.int vc), .val (.int ve), .val (.int vf), .val (.ref (oo 0)), .unset, .unset, .unset, .unset] [])) _
        refine XS.aload X125.here hx rfl (hb hby at_73) rfl rfl ?_
        refine XS.iload X125.here hx rfl (hb hby at_75) rfl ?_
        refine XS.iload X125.here hx rfl (hb hby at_77) rfl ?_
        refine XS.i2dS X125.here hx rfl (hb hby at_79) rfl (i2d_w _) ?_
        show Steps p.tables e below (T125.setTop (mkF m 80 #[.val (.int p1), .val (.int p2), .val (.int p3), .val (.int p4), .val (.int p5), .val (.int va), .val (.int vb), .val (.int vc), .val (.int ve), .val (.int vf), .val (.ref (oo 0)), .unset, .unset, .unset, .unset] [(.double (FP.l2d (vf.toInt64))), (.int va), (.ref (oo 0))])) _
        exact k
      obtain ⟨cq126, kq126, qa126, qb126, qc126⟩ := isOf hZ rfl SE_125
      obtain ⟨_, _, ⟨T126, L126, kk126, nn126⟩, -, X126, ⟨Lc126, hQ126, l126, y126, z126⟩, st126⟩ := X125.virtualBack hx (y := (⟨"com/example/physarum/physarum/Proposals", "add", "(ID)V"⟩ : MethodName)) (z := (⟨"com/example/physarum/physarum/Proposals", "add", "(ID)V"⟩ : MethodName)) hown (mvT hZ (hw _ (List.mem_of_getElem? (i := 30) rfl))) (mvT hZ (hw _ (List.mem_of_getElem? (i := 31) rfl))) (notFace_of_selects (args := #[]) (mvT hZ (hw _ (List.mem_of_getElem? (i := 33) rfl)))) (mvT hZ (hw _ (List.mem_of_getElem? (i := 33) rfl))) (mvT hZ (hw _ (List.mem_of_getElem? (i := 32) rfl))) (by decide) (backOf (W := 0) (rmAddN1 l Z a0 hw [] va (FP.l2d (vf.toInt64)) oo kk vc (0 : Int32) (0 : Int32) (0 : Int32) (0 : Int32) (0 : Int32) (FP.l2d (ve.toInt64)) (4641240890982006784 : UInt64) (0 : UInt64) (0 : Int32) (0 : Int32) (0 : UInt64) (0 : UInt64) (0 : UInt64) (0 : Int32) (0 : Int32) (0 : Int32) (own_L0.set (vc).toNatClampNeg (.int (0 : Int32))) T125.heap n0 hz125 hne hn ⟨SE_125, SF_candidates_125, SF_proposed_125, SF_confidences_125, SF_starts_125, SF_arranged_125, SF_taken_125, SF_indices_125, SF_cnt_125, SF_sz_125, SA_1_125, SA_2_125, SA_3_125, SA_4_125, SA_5_125, SA_6_125, SA_7_125⟩ (by first | exact own_len0 | (simp only [List.length_set]; exact own_len0)) ha (own_g1 vc va hc_ ha eca)) hZ (hw _ (List.mem_of_getElem? (i := 34) rfl)) (hw _ (List.mem_of_getElem? (i := 2) rfl)) (by decide) (by decide)) qa126 qc126 (g := (mkF m 80 #[.val (.int p1), .val (.int p2), .val (.int p3), .val (.int p4), .val (.int p5), .val (.int va), .val (.int vb), .val (.int vc), .val (.int ve), .val (.int vf), .val (.ref (oo 0)), .unset, .unset, .unset, .unset] [(.double (FP.l2d (vf.toInt64))), (.int va), (.ref (oo 0))])) rfl (by rw [hml]; rfl) (Steps.refl _) (argsL := [(.int va), (.double (FP.l2d (vf.toInt64)))]) (rest := []) (lenOf pd_5 rfl) rfl (by show 2 * 0 + _ ≤ _; exact Nat.le_of_eq rfl) (hb hby at_80) (fun _ _ => ⟨rfl, rfl, (by decide : 8 + 0 ≤ _), (by decide : 254 + 0 ≤ _)⟩)
      dsimp only [Pt.U, Pt.locs, Pt.cells, Pt.slots] at X126 l126 y126 z126 st126 hQ126
      subst l126 y126 z126
      obtain ⟨rfl, Nq126, hz126, HS126⟩ := hQ126
      have N126 := Fr.app N125 Nq126
      obtain ⟨SE_126, SF_candidates_126, SF_proposed_126, SF_confidences_126, SF_starts_126, SF_arranged_126, SF_taken_126, SF_indices_126, SF_cnt_126, SF_sz_126, SA_1_126, SA_2_126, SA_3_126, SA_4_126, SA_5_126, SA_6_126, SA_7_126⟩ := HS126
      refine EndsQ.go (fun t k => st126.trans k) ?_
      show EndsQ _ _ _ _ _ _ _ (T126.setTop (mkF m 83 #[.val (.int p1), .val (.int p2), .val (.int p3), .val (.int p4), .val (.int p5), .val (.int va), .val (.int vb), .val (.int vc), .val (.int ve), .val (.int vf), .val (.ref (oo 0)), .unset, .unset, .unset, .unset] []))
      refine EndsQ.go (b := T126.setTop (mkF m 85 #[.val (.int p1), .val (.int p2), .val (.int p3), .val (.int p4), .val (.int p5), .val (.int va), .val (.int vb), .val (.int vc), .val (.int ve), .val (.int vf), .val (.ref (oo 0)), .unset, .unset, .unset, .unset] [(.ref (oo 0))])) (fun t k => ?_) ?_
      · show Steps p.tables e below (T126.setTop (mkF m 83 #[.val (.int p1), .val (.int p2), .val (.int p3), .val (.int p4), .val (.int p5), .val (.int va), .val (.int vb), .val (.int vc), .val (.int ve), .val (.int vf), .val (.ref (oo 0)), .unset, .unset, .unset, .unset] [])) _
        refine XS.aload X126.here hx rfl (hb hby at_83) rfl rfl ?_
        exact k
      obtain ⟨cq127, kq127, qa127, qb127, qc127⟩ := isOf hZ rfl SE_126
      obtain ⟨_, _, ⟨T127, L127, kk127, nn127⟩, -, X127, ⟨Lc127, hQ127, l127, y127, z127⟩, st127⟩ := X126.virtualBack hx (y := (⟨"com/example/physarum/physarum/Proposals", "arrange", "()V"⟩ : MethodName)) (z := (⟨"com/example/physarum/physarum/Proposals", "arrange", "()V"⟩ : MethodName)) hown (mvT hZ (hw _ (List.mem_of_getElem? (i := 45) rfl))) (mvT hZ (hw _ (List.mem_of_getElem? (i := 46) rfl))) (notFace_of_selects (args := #[]) (mvT hZ (hw _ (List.mem_of_getElem? (i := 48) rfl)))) (mvT hZ (hw _ (List.mem_of_getElem? (i := 48) rfl))) (mvT hZ (hw _ (List.mem_of_getElem? (i := 47) rfl))) (by decide) (backOf (W := 0) (rmArr2 l Z a0 hw [] oo kk vc va (0 : Int32) (0 : Int32) (FP.l2d (ve.toInt64)) (FP.l2d (vf.toInt64)) (0 : UInt64) (0 : Int32) (0 : UInt64) (0 : UInt64) (0 : UInt64) (0 : Int32) (0 : Int32) (0 : Int32) ((own_L0.set (vc).toNatClampNeg (.int (0 : Int32))).set (va).toNatClampNeg (.int (1 : Int32))) T126.heap n0 hz126 hne hn ⟨SE_126, SF_candidates_126, SF_proposed_126, SF_confidences_126, SF_starts_126, SF_arranged_126, SF_taken_126, SF_indices_126, SF_cnt_126, SF_sz_126, SA_1_126, SA_2_126, SA_3_126, SA_4_126, SA_5_126, SA_6_126, SA_7_126⟩ ) hZ (hw _ (List.mem_of_getElem? (i := 49) rfl)) (hw _ (List.mem_of_getElem? (i := 2) rfl)) (by decide) (by decide)) qa127 qc127 (g := (mkF m 85 #[.val (.int p1), .val (.int p2), .val (.int p3), .val (.int p4), .val (.int p5), .val (.int va), .val (.int vb), .val (.int vc), .val (.int ve), .val (.int vf), .val (.ref (oo 0)), .unset, .unset, .unset, .unset] [(.ref (oo 0))])) rfl (by rw [hml]; rfl) (Steps.refl _) (argsL := []) (rest := []) (lenOf pd_6 rfl) rfl (by show 2 * 0 + _ ≤ _; exact Nat.le_of_eq rfl) (hb hby at_85) (fun _ _ => ⟨rfl, rfl, (by decide : 8 + 0 ≤ _), (by decide : 254 + 0 ≤ _)⟩)
      dsimp only [Pt.U, Pt.locs, Pt.cells, Pt.slots] at X127 l127 y127 z127 st127 hQ127
      subst l127 y127 z127
      obtain ⟨rfl, Nq127, hz127, HS127⟩ := hQ127
      have N127 := Fr.app N126 Nq127
      obtain ⟨SE_127, SF_candidates_127, SF_proposed_127, SF_confidences_127, SF_starts_127, SF_arranged_127, SF_taken_127, SF_indices_127, SF_cnt_127, SF_sz_127, SA_1_127, SA_2_127, SA_3_127, SA_4_127, SA_5_127, SA_6_127, SA_7_127⟩ := HS127
      refine EndsQ.go (fun t k => st127.trans k) ?_
      show EndsQ _ _ _ _ _ _ _ (T127.setTop (mkF m 88 #[.val (.int p1), .val (.int p2), .val (.int p3), .val (.int p4), .val (.int p5), .val (.int va), .val (.int vb), .val (.int vc), .val (.int ve), .val (.int vf), .val (.ref (oo 0)), .unset, .unset, .unset, .unset] []))
      refine EndsQ.go (b := T127.setTop (mkF m 147 #[.val (.int p1), .val (.int p2), .val (.int p3), .val (.int p4), .val (.int p5), .val (.int va), .val (.int vb), .val (.int vc), .val (.int ve), .val (.int vf), .val (.ref (oo 0)), .val (.int (0 : Int32)), .val (.int (2 : Int32)), .val (.int (1 : Int32)), .val (.int ve)] [(.ref (oo 0))])) (fun t k => ?_) ?_
      · show Steps p.tables e below (T127.setTop (mkF m 88 #[.val (.int p1), .val (.int p2), .val (.int p3), .val (.int p4), .val (.int p5), .val (.int va), .val (.int vb), .val (.int vc), .val (.int ve), .val (.int vf), .val (.ref (oo 0)), .unset, .unset, .unset, .unset] [])) _
        refine XS.iload X127.here hx rfl (hb hby at_88) rfl ?_
        refine XS.iload X127.here hx rfl (hb hby at_90) rfl ?_
        refine XS.icmpYes X127.here hx rfl (pc0 := 92) (pc' := 99) rfl (hb hby at_92) rfl (feq eca).2 (by decide) (by decide) ?_
        show Steps p.tables e below (T127.setTop (mkF m 99 #[.val (.int p1), .val (.int p2), .val (.int p3), .val (.int p4), .val (.int p5), .val (.int va), .val (.int vb), .val (.int vc), .val (.int ve), .val (.int vf), .val (.ref (oo 0)), .unset, .unset, .unset, .unset] [])) _
        refine XS.iconst X127.here hx rfl (hb hby at_99) ?_
        show Steps p.tables e below (T127.setTop (mkF m 100 #[.val (.int p1), .val (.int p2), .val (.int p3), .val (.int p4), .val (.int p5), .val (.int va), .val (.int vb), .val (.int vc), .val (.int ve), .val (.int vf), .val (.ref (oo 0)), .unset, .unset, .unset, .unset] [(.int (0 : Int32))])) _
        refine XS.istore X127.here hx rfl (hb hby at_100) rfl (l' := #[.val (.int p1), .val (.int p2), .val (.int p3), .val (.int p4), .val (.int p5), .val (.int va), .val (.int vb), .val (.int vc), .val (.int ve), .val (.int vf), .val (.ref (oo 0)), .val (.int (0 : Int32)), .unset, .unset, .unset]) rfl ?_
        refine XS.iload X127.here hx rfl (hb hby at_102) rfl ?_
        refine XS.ifYes X127.here hx rfl (pc0 := 104) (pc' := 111) rfl (hb hby at_104) rfl ((if0 _ _).trans (teq (by decide)).1) (by decide) (by decide) ?_
        show Steps p.tables e below (T127.setTop (mkF m 111 #[.val (.int p1), .val (.int p2), .val (.int p3), .val (.int p4), .val (.int p5), .val (.int va), .val (.int vb), .val (.int vc), .val (.int ve), .val (.int vf), .val (.ref (oo 0)), .val (.int (0 : Int32)), .unset, .unset, .unset] [])) _
        refine XS.iconst X127.here hx rfl (hb hby at_111) ?_
        refine XS.istore X127.here hx rfl (hb hby at_112) rfl (l' := #[.val (.int p1), .val (.int p2), .val (.int p3), .val (.int p4), .val (.int p5), .val (.int va), .val (.int vb), .val (.int vc), .val (.int ve), .val (.int vf), .val (.ref (oo 0)), .val (.int (0 : Int32)), .val (.int (2 : Int32)), .unset, .unset]) rfl ?_
        show Steps p.tables e below (T127.setTop (mkF m 114 #[.val (.int p1), .val (.int p2), .val (.int p3), .val (.int p4), .val (.int p5), .val (.int va), .val (.int vb), .val (.int vc), .val (.int ve), .val (.int vf), .val (.ref (oo 0)), .val (.int (0 : Int32)), .val (.int (2 : Int32)), .unset, .unset] [])) _
        refine XS.iload X127.here hx rfl (hb hby at_114) rfl ?_
        refine XS.ifYes X127.here hx rfl (pc0 := 116) (pc' := 123) rfl (hb hby at_116) rfl ((if0 _ _).trans (teq (by decide)).1) (by decide) (by decide) ?_
        show Steps p.tables e below (T127.setTop (mkF m 123 #[.val (.int p1), .val (.int p2), .val (.int p3), .val (.int p4), .val (.int p5), .val (.int va), .val (.int vb), .val (.int vc), .val (.int ve), .val (.int vf), .val (.ref (oo 0)), .val (.int (0 : Int32)), .val (.int (2 : Int32)), .unset, .unset] [])) _
        refine XS.iconst X127.here hx rfl (hb hby at_123) ?_
        refine XS.istore X127.here hx rfl (hb hby at_124) rfl (l' := #[.val (.int p1), .val (.int p2), .val (.int p3), .val (.int p4), .val (.int p5), .val (.int va), .val (.int vb), .val (.int vc), .val (.int ve), .val (.int vf), .val (.ref (oo 0)), .val (.int (0 : Int32)), .val (.int (2 : Int32)), .val (.int (1 : Int32)), .unset]) rfl ?_
        refine XS.iload X127.here hx rfl (hb hby at_126) rfl ?_
        show Steps p.tables e below (T127.setTop (mkF m 128 #[.val (.int p1), .val (.int p2), .val (.int p3), .val (.int p4), .val (.int p5), .val (.int va), .val (.int vb), .val (.int vc), .val (.int ve), .val (.int vf), .val (.ref (oo 0)), .val (.int (0 : Int32)), .val (.int (2 : Int32)), .val (.int (1 : Int32)), .unset] [(.int (0 : Int32))])) _
        refine XS.ifYes X127.here hx rfl (pc0 := 128) (pc' := 141) rfl (hb hby at_128) rfl ((if0 _ _).trans (teq (by decide)).1) (by decide) (by decide) ?_
        show Steps p.tables e below (T127.setTop (mkF m 141 #[.val (.int p1), .val (.int p2), .val (.int p3), .val (.int p4), .val (.int p5), .val (.int va), .val (.int vb), .val (.int vc), .val (.int ve), .val (.int vf), .val (.ref (oo 0)), .val (.int (0 : Int32)), .val (.int (2 : Int32)), .val (.int (1 : Int32)), .unset] [])) _
        refine XS.iload X127.here hx rfl (hb hby at_141) rfl ?_
        refine XS.istore X127.here hx rfl (hb hby at_143) rfl (l' := #[.val (.int p1), .val (.int p2), .val (.int p3), .val (.int p4), .val (.int p5), .val (.int va), .val (.int vb), .val (.int vc), .val (.int ve), .val (.int vf), .val (.ref (oo 0)), .val (.int (0 : Int32)), .val (.int (2 : Int32)), .val (.int (1 : Int32)), .val (.int ve)]) rfl ?_
        refine XS.aload X127.here hx rfl (hb hby at_145) rfl rfl ?_
        exact k
      obtain ⟨cq128, kq128, qa128, qb128, qc128⟩ := isOf hZ rfl SE_127
      obtain ⟨_, _, ⟨T128, L128, kk128, nn128⟩, -, X128, ⟨Lc128, hQ128, l128, y128, z128⟩, st128⟩ := X127.virtualBack hx (y := (⟨"com/example/physarum/physarum/Proposals", "size", "()I"⟩ : MethodName)) (z := (⟨"com/example/physarum/physarum/Proposals", "size", "()I"⟩ : MethodName)) hown (mvT hZ (hw _ (List.mem_of_getElem? (i := 55) rfl))) (mvT hZ (hw _ (List.mem_of_getElem? (i := 56) rfl))) (notFace_of_selects (args := #[]) (mvT hZ (hw _ (List.mem_of_getElem? (i := 58) rfl)))) (mvT hZ (hw _ (List.mem_of_getElem? (i := 58) rfl))) (mvT hZ (hw _ (List.mem_of_getElem? (i := 57) rfl))) (by decide) (backOf (W := 0) (rmSz l Z a0 hw [] oo kk vc va (0 : Int32) (0 : Int32) (1 : Int32) (0 : Int32) (FP.l2d (ve.toInt64)) (FP.l2d (vf.toInt64)) (0 : UInt64) (0 : Int32) (1 : Int32) (2 : Int32) (FP.l2d (ve.toInt64)) (FP.l2d (vf.toInt64)) (0 : UInt64) (0 : Int32) (0 : Int32) (0 : Int32) ((own_L0.set (vc).toNatClampNeg (.int (0 : Int32))).set (va).toNatClampNeg (.int (1 : Int32))) (2 : Int32) (2 : Int32) T127.heap n0 hz127 hne hn ⟨SE_127, SF_candidates_127, SF_proposed_127, SF_confidences_127, SF_starts_127, SF_arranged_127, SF_taken_127, SF_indices_127, SF_cnt_127, SF_sz_127, SA_1_127, SA_2_127, SA_3_127, SA_4_127, SA_5_127, SA_6_127, SA_7_127⟩) hZ (hw _ (List.mem_of_getElem? (i := 59) rfl)) (hw _ (List.mem_of_getElem? (i := 2) rfl)) (by decide) (by decide)) qa128 qc128 (g := (mkF m 147 #[.val (.int p1), .val (.int p2), .val (.int p3), .val (.int p4), .val (.int p5), .val (.int va), .val (.int vb), .val (.int vc), .val (.int ve), .val (.int vf), .val (.ref (oo 0)), .val (.int (0 : Int32)), .val (.int (2 : Int32)), .val (.int (1 : Int32)), .val (.int ve)] [(.ref (oo 0))])) rfl (by rw [hml]; rfl) (Steps.refl _) (argsL := []) (rest := []) (lenOf pd_8 rfl) rfl (by show 2 * 0 + _ ≤ _; exact Nat.le_of_eq rfl) (hb hby at_147) (fun _ _ => ⟨rfl, rfl, (by decide : 8 + 0 ≤ _), (by decide : 254 + 0 ≤ _)⟩)
      dsimp only [Pt.U, Pt.locs, Pt.cells, Pt.slots] at X128 l128 y128 z128 st128 hQ128
      subst l128 y128 z128
      obtain ⟨rfl, Nq128, eq128⟩ := hQ128
      have N128 := Fr.app N127 Nq128
      refine EndsQ.go (fun t k => st128.trans k) ?_
      show EndsQ _ _ _ _ _ _ _ (T128.setTop (mkF m 150 #[.val (.int p1), .val (.int p2), .val (.int p3), .val (.int p4), .val (.int p5), .val (.int va), .val (.int vb), .val (.int vc), .val (.int ve), .val (.int vf), .val (.ref (oo 0)), .val (.int (0 : Int32)), .val (.int (2 : Int32)), .val (.int (1 : Int32)), .val (.int ve)] [(.int (2 : Int32))]))
      refine EndsQ.go (b := T128.setTop (mkF m 158 #[.val (.int p1), .val (.int p2), .val (.int p3), .val (.int p4), .val (.int p5), .val (.int va), .val (.int vb), .val (.int vc), .val (.int ve), .val (.int vf), .val (.ref (oo 0)), .val (.int (0 : Int32)), .val (.int (2 : Int32)), .val (.int (1 : Int32)), .val (.int ve)] [(.int (0 : Int32)), (.ref (oo 0))])) (fun t k => ?_) ?_
      · show Steps p.tables e below (T128.setTop (mkF m 150 #[.val (.int p1), .val (.int p2), .val (.int p3), .val (.int p4), .val (.int p5), .val (.int va), .val (.int vb), .val (.int vc), .val (.int ve), .val (.int vf), .val (.ref (oo 0)), .val (.int (0 : Int32)), .val (.int (2 : Int32)), .val (.int (1 : Int32)), .val (.int ve)] [(.int (2 : Int32))])) _
        refine XS.iload X128.here hx rfl (hb hby at_150) rfl ?_
        show Steps p.tables e below (T128.setTop (mkF m 152 #[.val (.int p1), .val (.int p2), .val (.int p3), .val (.int p4), .val (.int p5), .val (.int va), .val (.int vb), .val (.int vc), .val (.int ve), .val (.int vf), .val (.ref (oo 0)), .val (.int (0 : Int32)), .val (.int (2 : Int32)), .val (.int (1 : Int32)), .val (.int ve)] [(.int (2 : Int32)), (.int (2 : Int32))])) _
        refine XS.icmpNo X128.here hx rfl (hb hby at_152) rfl (teq (by decide)).2 ?_
        show Steps p.tables e below (T128.setTop (mkF m 155 #[.val (.int p1), .val (.int p2), .val (.int p3), .val (.int p4), .val (.int p5), .val (.int va), .val (.int vb), .val (.int vc), .val (.int ve), .val (.int vf), .val (.ref (oo 0)), .val (.int (0 : Int32)), .val (.int (2 : Int32)), .val (.int (1 : Int32)), .val (.int ve)] [])) _
        refine XS.aload X128.here hx rfl (hb hby at_155) rfl rfl ?_
        refine XS.iconst X128.here hx rfl (hb hby at_157) ?_
        exact k
      obtain ⟨cq129, kq129, qa129, qb129, qc129⟩ := isOf hZ eq128 SE_127
      obtain ⟨_, _, ⟨T129, L129, kk129, nn129⟩, -, X129, ⟨Lc129, hQ129, l129, y129, z129⟩, st129⟩ := X128.virtualBack hx (y := (⟨"com/example/physarum/physarum/Proposals", "candidate", "(I)I"⟩ : MethodName)) (z := (⟨"com/example/physarum/physarum/Proposals", "candidate", "(I)I"⟩ : MethodName)) hown (mvT hZ (hw _ (List.mem_of_getElem? (i := 60) rfl))) (mvT hZ (hw _ (List.mem_of_getElem? (i := 61) rfl))) (notFace_of_selects (args := #[]) (mvT hZ (hw _ (List.mem_of_getElem? (i := 63) rfl)))) (mvT hZ (hw _ (List.mem_of_getElem? (i := 63) rfl))) (mvT hZ (hw _ (List.mem_of_getElem? (i := 62) rfl))) (by decide) (backOf (W := 0) (rmCa l Z a0 hw [] oo kk vc va (0 : Int32) (0 : Int32) (1 : Int32) (0 : Int32) (FP.l2d (ve.toInt64)) (FP.l2d (vf.toInt64)) (0 : UInt64) (0 : Int32) (1 : Int32) (2 : Int32) (FP.l2d (ve.toInt64)) (FP.l2d (vf.toInt64)) (0 : UInt64) (0 : Int32) (0 : Int32) (0 : Int32) ((own_L0.set (vc).toNatClampNeg (.int (0 : Int32))).set (va).toNatClampNeg (.int (1 : Int32))) (2 : Int32) (2 : Int32) T127.heap n0 hz127 hne hn ⟨SE_127, SF_candidates_127, SF_proposed_127, SF_confidences_127, SF_starts_127, SF_arranged_127, SF_taken_127, SF_indices_127, SF_cnt_127, SF_sz_127, SA_1_127, SA_2_127, SA_3_127, SA_4_127, SA_5_127, SA_6_127, SA_7_127⟩) hZ (hw _ (List.mem_of_getElem? (i := 64) rfl)) (hw _ (List.mem_of_getElem? (i := 2) rfl)) (by decide) (by decide)) qa129 qc129 (g := (mkF m 158 #[.val (.int p1), .val (.int p2), .val (.int p3), .val (.int p4), .val (.int p5), .val (.int va), .val (.int vb), .val (.int vc), .val (.int ve), .val (.int vf), .val (.ref (oo 0)), .val (.int (0 : Int32)), .val (.int (2 : Int32)), .val (.int (1 : Int32)), .val (.int ve)] [(.int (0 : Int32)), (.ref (oo 0))])) rfl (by rw [hml]; rfl) (Steps.refl _) (argsL := [(.int (0 : Int32))]) (rest := []) (lenOf pd_1 rfl) rfl (by show 2 * 0 + _ ≤ _; exact Nat.le_of_eq rfl) (hb hby at_158) (fun _ _ => ⟨rfl, eq128, (by decide : 8 + 0 ≤ _), (by decide : 254 + 0 ≤ _)⟩)
      dsimp only [Pt.U, Pt.locs, Pt.cells, Pt.slots] at X129 l129 y129 z129 st129 hQ129
      subst l129 y129 z129
      obtain ⟨rfl, Nq129, eq129⟩ := hQ129
      have N129 := Fr.app N128 Nq129
      refine EndsQ.go (fun t k => st129.trans k) ?_
      show EndsQ _ _ _ _ _ _ _ (T129.setTop (mkF m 161 #[.val (.int p1), .val (.int p2), .val (.int p3), .val (.int p4), .val (.int p5), .val (.int va), .val (.int vb), .val (.int vc), .val (.int ve), .val (.int vf), .val (.ref (oo 0)), .val (.int (0 : Int32)), .val (.int (2 : Int32)), .val (.int (1 : Int32)), .val (.int ve)] [(.int vc)]))
      refine EndsQ.go (b := T129.setTop (mkF m 169 #[.val (.int p1), .val (.int p2), .val (.int p3), .val (.int p4), .val (.int p5), .val (.int va), .val (.int vb), .val (.int vc), .val (.int ve), .val (.int vf), .val (.ref (oo 0)), .val (.int (0 : Int32)), .val (.int (2 : Int32)), .val (.int (1 : Int32)), .val (.int ve)] [(.int (0 : Int32)), (.ref (oo 0))])) (fun t k => ?_) ?_
      · show Steps p.tables e below (T129.setTop (mkF m 161 #[.val (.int p1), .val (.int p2), .val (.int p3), .val (.int p4), .val (.int p5), .val (.int va), .val (.int vb), .val (.int vc), .val (.int ve), .val (.int vf), .val (.ref (oo 0)), .val (.int (0 : Int32)), .val (.int (2 : Int32)), .val (.int (1 : Int32)), .val (.int ve)] [(.int vc)])) _
        refine XS.iload X129.here hx rfl (hb hby at_161) rfl ?_
        refine XS.icmpNo X129.here hx rfl (hb hby at_163) rfl (teq rfl).2 ?_
        show Steps p.tables e below (T129.setTop (mkF m 166 #[.val (.int p1), .val (.int p2), .val (.int p3), .val (.int p4), .val (.int p5), .val (.int va), .val (.int vb), .val (.int vc), .val (.int ve), .val (.int vf), .val (.ref (oo 0)), .val (.int (0 : Int32)), .val (.int (2 : Int32)), .val (.int (1 : Int32)), .val (.int ve)] [])) _
        refine XS.aload X129.here hx rfl (hb hby at_166) rfl rfl ?_
        show Steps p.tables e below (T129.setTop (mkF m 168 #[.val (.int p1), .val (.int p2), .val (.int p3), .val (.int p4), .val (.int p5), .val (.int va), .val (.int vb), .val (.int vc), .val (.int ve), .val (.int vf), .val (.ref (oo 0)), .val (.int (0 : Int32)), .val (.int (2 : Int32)), .val (.int (1 : Int32)), .val (.int ve)] [(.ref (oo 0))])) _
        refine XS.iconst X129.here hx rfl (hb hby at_168) ?_
        exact k
      obtain ⟨cq130, kq130, qa130, qb130, qc130⟩ := isOf hZ eq129 SE_127
      obtain ⟨_, _, ⟨T130, L130, kk130, nn130⟩, -, X130, ⟨Lc130, hQ130, l130, y130, z130⟩, st130⟩ := X129.virtualBack hx (y := (⟨"com/example/physarum/physarum/Proposals", "count", "(I)I"⟩ : MethodName)) (z := (⟨"com/example/physarum/physarum/Proposals", "count", "(I)I"⟩ : MethodName)) hown (mvT hZ (hw _ (List.mem_of_getElem? (i := 65) rfl))) (mvT hZ (hw _ (List.mem_of_getElem? (i := 51) rfl))) (notFace_of_selects (args := #[]) (mvT hZ (hw _ (List.mem_of_getElem? (i := 53) rfl)))) (mvT hZ (hw _ (List.mem_of_getElem? (i := 53) rfl))) (mvT hZ (hw _ (List.mem_of_getElem? (i := 52) rfl))) (by decide) (backOf (W := 0) (rmCo0 l Z a0 hw [] oo kk vc va (0 : Int32) (0 : Int32) (1 : Int32) (0 : Int32) (FP.l2d (ve.toInt64)) (FP.l2d (vf.toInt64)) (0 : UInt64) (0 : Int32) (1 : Int32) (2 : Int32) (FP.l2d (ve.toInt64)) (FP.l2d (vf.toInt64)) (0 : UInt64) (0 : Int32) (0 : Int32) (0 : Int32) ((own_L0.set (vc).toNatClampNeg (.int (0 : Int32))).set (va).toNatClampNeg (.int (1 : Int32))) (2 : Int32) (2 : Int32) T127.heap n0 hz127 hne hn ⟨SE_127, SF_candidates_127, SF_proposed_127, SF_confidences_127, SF_starts_127, SF_arranged_127, SF_taken_127, SF_indices_127, SF_cnt_127, SF_sz_127, SA_1_127, SA_2_127, SA_3_127, SA_4_127, SA_5_127, SA_6_127, SA_7_127⟩) hZ (hw _ (List.mem_of_getElem? (i := 54) rfl)) (hw _ (List.mem_of_getElem? (i := 2) rfl)) (by decide) (by decide)) qa130 qc130 (g := (mkF m 169 #[.val (.int p1), .val (.int p2), .val (.int p3), .val (.int p4), .val (.int p5), .val (.int va), .val (.int vb), .val (.int vc), .val (.int ve), .val (.int vf), .val (.ref (oo 0)), .val (.int (0 : Int32)), .val (.int (2 : Int32)), .val (.int (1 : Int32)), .val (.int ve)] [(.int (0 : Int32)), (.ref (oo 0))])) rfl (by rw [hml]; rfl) (Steps.refl _) (argsL := [(.int (0 : Int32))]) (rest := []) (lenOf pd_1 rfl) rfl (by show 2 * 0 + _ ≤ _; exact Nat.le_of_eq rfl) (hb hby at_169) (fun _ _ => ⟨rfl, eq129, (by decide : 8 + 0 ≤ _), (by decide : 254 + 0 ≤ _)⟩)
      dsimp only [Pt.U, Pt.locs, Pt.cells, Pt.slots] at X130 l130 y130 z130 st130 hQ130
      subst l130 y130 z130
      obtain ⟨rfl, Nq130, eq130⟩ := hQ130
      have N130 := Fr.app N129 Nq130
      refine EndsQ.go (fun t k => st130.trans k) ?_
      show EndsQ _ _ _ _ _ _ _ (T130.setTop (mkF m 172 #[.val (.int p1), .val (.int p2), .val (.int p3), .val (.int p4), .val (.int p5), .val (.int va), .val (.int vb), .val (.int vc), .val (.int ve), .val (.int vf), .val (.ref (oo 0)), .val (.int (0 : Int32)), .val (.int (2 : Int32)), .val (.int (1 : Int32)), .val (.int ve)] [(.int ((1 : Int32) - (0 : Int32)))]))
      rw [(by decide : ((1 : Int32) - (0 : Int32)) = (1 : Int32))]
      show EndsQ _ _ _ _ _ _ _ (T130.setTop (mkF m 172 #[.val (.int p1), .val (.int p2), .val (.int p3), .val (.int p4), .val (.int p5), .val (.int va), .val (.int vb), .val (.int vc), .val (.int ve), .val (.int vf), .val (.ref (oo 0)), .val (.int (0 : Int32)), .val (.int (2 : Int32)), .val (.int (1 : Int32)), .val (.int ve)] [(.int (1 : Int32))]))
      refine EndsQ.go (b := T130.setTop (mkF m 180 #[.val (.int p1), .val (.int p2), .val (.int p3), .val (.int p4), .val (.int p5), .val (.int va), .val (.int vb), .val (.int vc), .val (.int ve), .val (.int vf), .val (.ref (oo 0)), .val (.int (0 : Int32)), .val (.int (2 : Int32)), .val (.int (1 : Int32)), .val (.int ve)] [(.int (0 : Int32)), (.ref (oo 0))])) (fun t k => ?_) ?_
      · show Steps p.tables e below (T130.setTop (mkF m 172 #[.val (.int p1), .val (.int p2), .val (.int p3), .val (.int p4), .val (.int p5), .val (.int va), .val (.int vb), .val (.int vc), .val (.int ve), .val (.int vf), .val (.ref (oo 0)), .val (.int (0 : Int32)), .val (.int (2 : Int32)), .val (.int (1 : Int32)), .val (.int ve)] [(.int (1 : Int32))])) _
        refine XS.iload X130.here hx rfl (hb hby at_172) rfl ?_
        refine XS.icmpNo X130.here hx rfl (hb hby at_174) rfl (teq (by decide)).2 ?_
        show Steps p.tables e below (T130.setTop (mkF m 177 #[.val (.int p1), .val (.int p2), .val (.int p3), .val (.int p4), .val (.int p5), .val (.int va), .val (.int vb), .val (.int vc), .val (.int ve), .val (.int vf), .val (.ref (oo 0)), .val (.int (0 : Int32)), .val (.int (2 : Int32)), .val (.int (1 : Int32)), .val (.int ve)] [])) _
        refine XS.aload X130.here hx rfl (hb hby at_177) rfl rfl ?_
        refine XS.iconst X130.here hx rfl (hb hby at_179) ?_
        show Steps p.tables e below (T130.setTop (mkF m 180 #[.val (.int p1), .val (.int p2), .val (.int p3), .val (.int p4), .val (.int p5), .val (.int va), .val (.int vb), .val (.int vc), .val (.int ve), .val (.int vf), .val (.ref (oo 0)), .val (.int (0 : Int32)), .val (.int (2 : Int32)), .val (.int (1 : Int32)), .val (.int ve)] [(.int (0 : Int32)), (.ref (oo 0))])) _
        exact k
      obtain ⟨cq131, kq131, qa131, qb131, qc131⟩ := isOf hZ eq130 SE_127
      obtain ⟨_, _, ⟨T131, L131, kk131, nn131⟩, -, X131, ⟨Lc131, hQ131, l131, y131, z131⟩, st131⟩ := X130.virtualBack hx (y := (⟨"com/example/physarum/physarum/Proposals", "highest", "(I)D"⟩ : MethodName)) (z := (⟨"com/example/physarum/physarum/Proposals", "highest", "(I)D"⟩ : MethodName)) hown (mvT hZ (hw _ (List.mem_of_getElem? (i := 66) rfl))) (mvT hZ (hw _ (List.mem_of_getElem? (i := 67) rfl))) (notFace_of_selects (args := #[]) (mvT hZ (hw _ (List.mem_of_getElem? (i := 69) rfl)))) (mvT hZ (hw _ (List.mem_of_getElem? (i := 69) rfl))) (mvT hZ (hw _ (List.mem_of_getElem? (i := 68) rfl))) (by decide) (backOf (W := 0) (rmHigh2 l Z a0 hw [] oo kk vc va (0 : Int32) (0 : Int32) (1 : Int32) (0 : Int32) (FP.l2d (ve.toInt64)) (FP.l2d (vf.toInt64)) (0 : UInt64) (2 : Int32) (FP.l2d (ve.toInt64)) (FP.l2d (vf.toInt64)) (0 : UInt64) (0 : Int32) (0 : Int32) ((own_L0.set (vc).toNatClampNeg (.int (0 : Int32))).set (va).toNatClampNeg (.int (1 : Int32))) (2 : Int32) (2 : Int32) T127.heap n0 hz127 hne hn ⟨SE_127, SF_candidates_127, SF_proposed_127, SF_confidences_127, SF_starts_127, SF_arranged_127, SF_taken_127, SF_indices_127, SF_cnt_127, SF_sz_127, SA_1_127, SA_2_127, SA_3_127, SA_4_127, SA_5_127, SA_6_127, SA_7_127⟩ ) hZ (hw _ (List.mem_of_getElem? (i := 70) rfl)) (hw _ (List.mem_of_getElem? (i := 2) rfl)) (by decide) (by decide)) qa131 qc131 (g := (mkF m 180 #[.val (.int p1), .val (.int p2), .val (.int p3), .val (.int p4), .val (.int p5), .val (.int va), .val (.int vb), .val (.int vc), .val (.int ve), .val (.int vf), .val (.ref (oo 0)), .val (.int (0 : Int32)), .val (.int (2 : Int32)), .val (.int (1 : Int32)), .val (.int ve)] [(.int (0 : Int32)), (.ref (oo 0))])) rfl (by rw [hml]; rfl) (Steps.refl _) (argsL := [(.int (0 : Int32))]) (rest := []) (lenOf pd_9 rfl) rfl (by show 2 * 0 + _ ≤ _; exact Nat.le_of_eq rfl) (hb hby at_180) (fun _ _ => ⟨rfl, eq130, (by decide : 8 + 0 ≤ _), (by decide : 254 + 0 ≤ _)⟩)
      dsimp only [Pt.U, Pt.locs, Pt.cells, Pt.slots] at X131 l131 y131 z131 st131 hQ131
      subst l131 y131 z131
      obtain ⟨rfl, Nq131, hz131, HS131⟩ := hQ131
      have N131 := Fr.app N130 Nq131
      obtain ⟨SE_131, SF_candidates_131, SF_proposed_131, SF_confidences_131, SF_starts_131, SF_arranged_131, SF_taken_131, SF_indices_131, SF_cnt_131, SF_sz_131, SA_1_131, SA_2_131, SA_3_131, SA_4_131, SA_5_131, SA_6_131, SA_7_131⟩ := HS131
      refine EndsQ.go (fun t k => st131.trans k) ?_
      show EndsQ _ _ _ _ _ _ _ (T131.setTop (mkF m 183 #[.val (.int p1), .val (.int p2), .val (.int p3), .val (.int p4), .val (.int p5), .val (.int va), .val (.int vb), .val (.int vc), .val (.int ve), .val (.int vf), .val (.ref (oo 0)), .val (.int (0 : Int32)), .val (.int (2 : Int32)), .val (.int (1 : Int32)), .val (.int ve)] [(.double (FP.l2d (ve.toInt64)))]))
      refine EndsQ.go (b := T131.setTop (mkF m 195 #[.val (.int p1), .val (.int p2), .val (.int p3), .val (.int p4), .val (.int p5), .val (.int va), .val (.int vb), .val (.int vc), .val (.int ve), .val (.int vf), .val (.ref (oo 0)), .val (.int (0 : Int32)), .val (.int (2 : Int32)), .val (.int (1 : Int32)), .val (.int ve)] [(.int (1 : Int32))])) (fun t k => ?_) ?_
      · show Steps p.tables e below (T131.setTop (mkF m 183 #[.val (.int p1), .val (.int p2), .val (.int p3), .val (.int p4), .val (.int p5), .val (.int va), .val (.int vb), .val (.int vc), .val (.int ve), .val (.int vf), .val (.ref (oo 0)), .val (.int (0 : Int32)), .val (.int (2 : Int32)), .val (.int (1 : Int32)), .val (.int ve)] [(.double (FP.l2d (ve.toInt64)))])) _
        refine XS.iload X131.here hx rfl (hb hby at_183) rfl ?_
        refine XS.i2dS X131.here hx rfl (hb hby at_185) rfl (i2d_w _) ?_
        refine XS.dcmpS X131.here hx rfl (hb hby at_186) rfl (dcmpV_w (own_b53 ve) (own_b53 ve) .l) ?_
        refine XS.ifNo X131.here hx rfl (hb hby at_187) rfl ((if0 _ _).trans (teq ((lw_eq (ve.toInt64) (ve.toInt64)).mpr rfl)).2) ?_
        show Steps p.tables e below (T131.setTop (mkF m 190 #[.val (.int p1), .val (.int p2), .val (.int p3), .val (.int p4), .val (.int p5), .val (.int va), .val (.int vb), .val (.int vc), .val (.int ve), .val (.int vf), .val (.ref (oo 0)), .val (.int (0 : Int32)), .val (.int (2 : Int32)), .val (.int (1 : Int32)), .val (.int ve)] [])) _
        refine XS.iconst X131.here hx rfl (hb hby at_190) ?_
        show Steps p.tables e below (T131.setTop (mkF m 191 #[.val (.int p1), .val (.int p2), .val (.int p3), .val (.int p4), .val (.int p5), .val (.int va), .val (.int vb), .val (.int vc), .val (.int ve), .val (.int vf), .val (.ref (oo 0)), .val (.int (0 : Int32)), .val (.int (2 : Int32)), .val (.int (1 : Int32)), .val (.int ve)] [(.int (1 : Int32))])) _
        refine XS.goto X131.here hx rfl (pc0 := 191) (pc' := 195) rfl (hb hby at_191) (by decide) (by decide) ?_
        exact k
      refine EndsQ.retN X131 hx Bd.notSynchronized (t := .boolean) Bd.returns (by simp) (hb hby at_195) (by decide) (by decide) ?_
      show Q0 Z p1 p2 p3 p4 p5 h0 n0 (some (.int (nar .boolean (1 : Int32)))) T131.heap _
      exact ⟨rfl, N131⟩
  · have hq_eab := eab
    obtain ⟨T132, h132, X132, e132, E132, A132, D132, -, st132⟩ := newO X0 hx hZ hown (hw _ (List.mem_of_getElem? (i := 0) rfl)) (hw _ (List.mem_of_getElem? (i := 1) rfl)) (hw _ (List.mem_of_getElem? (i := 2) rfl)) e0 (g := (mkF m 28 #[.val (.int p1), .val (.int p2), .val (.int p3), .val (.int p4), .val (.int p5), .val (.int va), .val (.int vb), .val (.int vc), .val (.int ve), .val (.int vf), .unset, .unset, .unset, .unset, .unset] [])) rfl (hb hby at_28) (by decide) (by decide)
    obtain ⟨b132, g132⟩ : ∃ z, z = h0.size := ⟨_, rfl⟩
    rw [← g132] at A132 D132 st132
    have gn132 : n0 ≤ b132 := Nat.le_trans Z0 (Nat.le_of_eq g132.symm)
    have f133 := Nat.le_trans Z0 E132.1
    have f134 : Fld Z h132 b132 "com/example/physarum/physarum/Proposals" "candidates" "[I" .null := D132 (Or.inl (hw _ (List.mem_of_getElem? (i := 11) rfl))) (ty := (.array .int)) (by decide)
    have f135 : Fld Z h132 b132 "com/example/physarum/physarum/Proposals" "proposed" "[I" .null := D132 (Or.inl (hw _ (List.mem_of_getElem? (i := 13) rfl))) (ty := (.array .int)) (by decide)
    have f136 : Fld Z h132 b132 "com/example/physarum/physarum/Proposals" "confidences" "[D" .null := D132 (Or.inl (hw _ (List.mem_of_getElem? (i := 16) rfl))) (ty := (.array .double)) (by decide)
    have f137 : Fld Z h132 b132 "com/example/physarum/physarum/Proposals" "starts" "[I" .null := D132 (Or.inl (hw _ (List.mem_of_getElem? (i := 18) rfl))) (ty := (.array .int)) (by decide)
    have f138 : Fld Z h132 b132 "com/example/physarum/physarum/Proposals" "arranged" "[D" .null := D132 (Or.inl (hw _ (List.mem_of_getElem? (i := 20) rfl))) (ty := (.array .double)) (by decide)
    have f139 : Fld Z h132 b132 "com/example/physarum/physarum/Proposals" "taken" "[I" .null := D132 (Or.inl (hw _ (List.mem_of_getElem? (i := 22) rfl))) (ty := (.array .int)) (by decide)
    have f140 : Fld Z h132 b132 "com/example/physarum/physarum/Proposals" "indices" "[I" .null := D132 (Or.inr (hw _ (List.mem_of_getElem? (i := 24) rfl))) (ty := (.array .int)) (by decide)
    have f141 : Fld Z h132 b132 "com/example/physarum/physarum/Proposals" "size" "I" (.int (0 : Int32)) := D132 (Or.inl (hw _ (List.mem_of_getElem? (i := 36) rfl))) (ty := .int) (by decide)
    have f142 : Fld Z h132 b132 "com/example/physarum/physarum/Proposals" "candidateCount" "I" (.int (0 : Int32)) := D132 (Or.inl (hw _ (List.mem_of_getElem? (i := 38) rfl))) (ty := .int) (by decide)
    refine EndsQ.go st132 ?_
    show EndsQ _ _ _ _ _ _ _ (T132.setTop (mkF m 31 #[.val (.int p1), .val (.int p2), .val (.int p3), .val (.int p4), .val (.int p5), .val (.int va), .val (.int vb), .val (.int vc), .val (.int ve), .val (.int vf), .unset, .unset, .unset, .unset, .unset] [(.ref b132)]))
    refine EndsQ.go (b := T132.setTop (mkF m 33 #[.val (.int p1), .val (.int p2), .val (.int p3), .val (.int p4), .val (.int p5), .val (.int va), .val (.int vb), .val (.int vc), .val (.int ve), .val (.int vf), .unset, .unset, .unset, .unset, .unset] [(.int (4 : Int32)), (.ref b132), (.ref b132)])) (fun t k => ?_) ?_
    · show Steps p.tables e below (T132.setTop (mkF m 31 #[.val (.int p1), .val (.int p2), .val (.int p3), .val (.int p4), .val (.int p5), .val (.int va), .val (.int vb), .val (.int vc), .val (.int ve), .val (.int vf), .unset, .unset, .unset, .unset, .unset] [(.ref b132)])) _
      refine XS.dup X132.here hx rfl (hb hby at_31) rfl rfl ?_
      refine XS.iconst X132.here hx rfl (hb hby at_32) ?_
      exact k
    obtain ⟨_, _, ⟨T143, L143, kk143, nn143⟩, -, X143, ⟨Lc143, hQ143, l143, y143, z143⟩, st143⟩ := X132.specialBack hx (y := (⟨"com/example/physarum/physarum/Proposals", "<init>", "(I)V"⟩ : MethodName)) rfl hown (mvT hZ (hw _ (List.mem_of_getElem? (i := 3) rfl))) (mvT hZ (hw _ (List.mem_of_getElem? (i := 4) rfl))) (mvT hZ (hw _ (List.mem_of_getElem? (i := 5) rfl))) (by decide) (backOf (W := 1) (rmInit l Z a0 hw [] b132 h132 n0 f133 f134 f135 f136 f137 f138 f139 f140 f142 f141 A132 gn132) hZ (hw _ (List.mem_of_getElem? (i := 5) rfl)) (hw _ (List.mem_of_getElem? (i := 2) rfl)) (by decide) (by decide)) (g := (mkF m 33 #[.val (.int p1), .val (.int p2), .val (.int p3), .val (.int p4), .val (.int p5), .val (.int va), .val (.int vb), .val (.int vc), .val (.int ve), .val (.int vf), .unset, .unset, .unset, .unset, .unset] [(.int (4 : Int32)), (.ref b132), (.ref b132)])) rfl (by rw [hml]; rfl) (Steps.refl _) (a := b132) (argsL := [(.int (4 : Int32))]) (rest := [(.ref b132)]) (lenOf pd_4 rfl) rfl (by show 2 * 0 + _ ≤ _; exact Nat.le_of_eq rfl) (hb hby at_33) (fun _ _ => ⟨rfl, e132, (by decide : 1 + 7 ≤ _), (by decide : 9 + 245 ≤ _)⟩)
    dsimp only [Pt.U, Pt.locs, Pt.cells, Pt.slots] at X143 l143 y143 z143 st143 hQ143
    subst l143 y143 z143
    obtain ⟨oo, kk, rfl, ho143, Nq143, hz143, hne, hn, HS143⟩ := hQ143
    have N143 := Fr.app N0 Nq143
    subst ho143
    obtain ⟨SE_143, SF_candidates_143, SF_proposed_143, SF_confidences_143, SF_starts_143, SF_arranged_143, SF_taken_143, SF_indices_143, SF_cnt_143, SF_sz_143, SA_1_143, SA_2_143, SA_3_143, SA_4_143, SA_5_143, SA_6_143, SA_7_143⟩ := HS143
    refine EndsQ.go (fun t k => st143.trans k) ?_
    show EndsQ _ _ _ _ _ _ _ (T143.setTop (mkF m 36 #[.val (.int p1), .val (.int p2), .val (.int p3), .val (.int p4), .val (.int p5), .val (.int va), .val (.int vb), .val (.int vc), .val (.int ve), .val (.int vf), .unset, .unset, .unset, .unset, .unset] [(.ref (oo 0))]))
    refine EndsQ.go (b := T143.setTop (mkF m 45 #[.val (.int p1), .val (.int p2), .val (.int p3), .val (.int p4), .val (.int p5), .val (.int va), .val (.int vb), .val (.int vc), .val (.int ve), .val (.int vf), .val (.ref (oo 0)), .unset, .unset, .unset, .unset] [(.double (4636737291354636288 : UInt64)), (.int va), (.ref (oo 0))])) (fun t k => ?_) ?_
    · show Steps p.tables e below (T143.setTop (mkF m 36 #[.val (.int p1), .val (.int p2), .val (.int p3), .val (.int p4), .val (.int p5), .val (.int va), .val (.int vb), .val (.int vc), .val (.int ve), .val (.int vf), .unset, .unset, .unset, .unset, .unset] [(.ref (oo 0))])) _
      refine XS.astore X143.here hx rfl (hb hby at_36) rfl rfl (l' := #[.val (.int p1), .val (.int p2), .val (.int p3), .val (.int p4), .val (.int p5), .val (.int va), .val (.int vb), .val (.int vc), .val (.int ve), .val (.int vf), .val (.ref (oo 0)), .unset, .unset, .unset, .unset]) rfl ?_
      show Steps p.tables e below (T143.setTop (mkF m 38 #[.val (.int p1), .val (.int p2), .val (.int p3), .val (.int p4), .val (.int p5), .val (.int va), .val (.int vb), .val (.int vc), .val (.int ve), .val (.int vf), .val (.ref (oo 0)), .unset, .unset, .unset, .unset] [])) _
      refine XS.aload X143.here hx rfl (hb hby at_38) rfl rfl ?_
      refine XS.iload X143.here hx rfl (hb hby at_40) rfl ?_
      refine X143.ldc2DoubleC hx hown (mvT hZ (hw _ (List.mem_of_getElem? (i := 29) rfl))) (g := (mkF m 42 #[.val (.int p1), .val (.int p2), .val (.int p3), .val (.int p4), .val (.int p5), .val (.int va), .val (.int vb), .val (.int vc), .val (.int ve), .val (.int vf), .val (.ref (oo 0)), .unset, .unset, .unset, .unset] [(.int va), (.ref (oo 0))])) rfl (hb hby at_42) _ ?_
      exact k
    obtain ⟨cq144, kq144, qa144, qb144, qc144⟩ := isOf hZ rfl SE_143
    obtain ⟨_, _, ⟨T144, L144, kk144, nn144⟩, -, X144, ⟨Lc144, hQ144, l144, y144, z144⟩, st144⟩ := X143.virtualBack hx (y := (⟨"com/example/physarum/physarum/Proposals", "add", "(ID)V"⟩ : MethodName)) (z := (⟨"com/example/physarum/physarum/Proposals", "add", "(ID)V"⟩ : MethodName)) hown (mvT hZ (hw _ (List.mem_of_getElem? (i := 30) rfl))) (mvT hZ (hw _ (List.mem_of_getElem? (i := 31) rfl))) (notFace_of_selects (args := #[]) (mvT hZ (hw _ (List.mem_of_getElem? (i := 33) rfl)))) (mvT hZ (hw _ (List.mem_of_getElem? (i := 33) rfl))) (mvT hZ (hw _ (List.mem_of_getElem? (i := 32) rfl))) (by decide) (backOf (W := 0) (rmAddN0 l Z a0 hw [] va (4636737291354636288 : UInt64) oo kk (0 : Int32) (0 : Int32) (0 : Int32) (0 : Int32) (0 : Int32) (0 : Int32) (0 : UInt64) (0 : UInt64) (0 : UInt64) (0 : Int32) (0 : Int32) (0 : Int32) (0 : UInt64) (0 : UInt64) (0 : UInt64) (0 : Int32) (0 : Int32) (0 : Int32) own_L0 T143.heap n0 hz143 hne hn ⟨SE_143, SF_candidates_143, SF_proposed_143, SF_confidences_143, SF_starts_143, SF_arranged_143, SF_taken_143, SF_indices_143, SF_cnt_143, SF_sz_143, SA_1_143, SA_2_143, SA_3_143, SA_4_143, SA_5_143, SA_6_143, SA_7_143⟩ (by first | exact own_len0 | (simp only [List.length_set]; exact own_len0)) ha (own_g0 va ha)) hZ (hw _ (List.mem_of_getElem? (i := 34) rfl)) (hw _ (List.mem_of_getElem? (i := 2) rfl)) (by decide) (by decide)) qa144 qc144 (g := (mkF m 45 #[.val (.int p1), .val (.int p2), .val (.int p3), .val (.int p4), .val (.int p5), .val (.int va), .val (.int vb), .val (.int vc), .val (.int ve), .val (.int vf), .val (.ref (oo 0)), .unset, .unset, .unset, .unset] [(.double (4636737291354636288 : UInt64)), (.int va), (.ref (oo 0))])) rfl (by rw [hml]; rfl) (Steps.refl _) (argsL := [(.int va), (.double (4636737291354636288 : UInt64))]) (rest := []) (lenOf pd_5 rfl) rfl (by show 2 * 0 + _ ≤ _; exact Nat.le_of_eq rfl) (hb hby at_45) (fun _ _ => ⟨rfl, rfl, (by decide : 8 + 0 ≤ _), (by decide : 254 + 0 ≤ _)⟩)
    dsimp only [Pt.U, Pt.locs, Pt.cells, Pt.slots] at X144 l144 y144 z144 st144 hQ144
    subst l144 y144 z144
    obtain ⟨rfl, Nq144, hz144, HS144⟩ := hQ144
    have N144 := Fr.app N143 Nq144
    obtain ⟨SE_144, SF_candidates_144, SF_proposed_144, SF_confidences_144, SF_starts_144, SF_arranged_144, SF_taken_144, SF_indices_144, SF_cnt_144, SF_sz_144, SA_1_144, SA_2_144, SA_3_144, SA_4_144, SA_5_144, SA_6_144, SA_7_144⟩ := HS144
    refine EndsQ.go (fun t k => st144.trans k) ?_
    show EndsQ _ _ _ _ _ _ _ (T144.setTop (mkF m 48 #[.val (.int p1), .val (.int p2), .val (.int p3), .val (.int p4), .val (.int p5), .val (.int va), .val (.int vb), .val (.int vc), .val (.int ve), .val (.int vf), .val (.ref (oo 0)), .unset, .unset, .unset, .unset] []))
    refine EndsQ.go (b := T144.setTop (mkF m 55 #[.val (.int p1), .val (.int p2), .val (.int p3), .val (.int p4), .val (.int p5), .val (.int va), .val (.int vb), .val (.int vc), .val (.int ve), .val (.int vf), .val (.ref (oo 0)), .unset, .unset, .unset, .unset] [(.double (4641240890982006784 : UInt64)), (.int vb), (.ref (oo 0))])) (fun t k => ?_) ?_
    · show Steps p.tables e below (T144.setTop (mkF m 48 #[.val (.int p1), .val (.int p2), .val (.int p3), .val (.int p4), .val (.int p5), .val (.int va), .val (.int vb), .val (.int vc), .val (.int ve), .val (.int vf), .val (.ref (oo 0)), .unset, .unset, .unset, .unset] [])) _
      refine XS.aload X144.here hx rfl (hb hby at_48) rfl rfl ?_
      show Steps p.tables e below (T144.setTop (mkF m 50 #[.val (.int p1), .val (.int p2), .val (.int p3), .val (.int p4), .val (.int p5), .val (.int va), .val (.int vb), .val (.int vc), .val (.int ve), .val (.int vf), .val (.ref (oo 0)), .unset, .unset, .unset, .unset] [(.ref (oo 0))])) _
      refine XS.iload X144.here hx rfl (hb hby at_50) rfl ?_
      refine X144.ldc2DoubleC hx hown (mvT hZ (hw _ (List.mem_of_getElem? (i := 39) rfl))) (g := (mkF m 52 #[.val (.int p1), .val (.int p2), .val (.int p3), .val (.int p4), .val (.int p5), .val (.int va), .val (.int vb), .val (.int vc), .val (.int ve), .val (.int vf), .val (.ref (oo 0)), .unset, .unset, .unset, .unset] [(.int vb), (.ref (oo 0))])) rfl (hb hby at_52) _ ?_
      exact k
    obtain ⟨cq145, kq145, qa145, qb145, qc145⟩ := isOf hZ rfl SE_144
    obtain ⟨_, _, ⟨T145, L145, kk145, nn145⟩, -, X145, ⟨Lc145, hQ145, l145, y145, z145⟩, st145⟩ := X144.virtualBack hx (y := (⟨"com/example/physarum/physarum/Proposals", "add", "(ID)V"⟩ : MethodName)) (z := (⟨"com/example/physarum/physarum/Proposals", "add", "(ID)V"⟩ : MethodName)) hown (mvT hZ (hw _ (List.mem_of_getElem? (i := 30) rfl))) (mvT hZ (hw _ (List.mem_of_getElem? (i := 31) rfl))) (notFace_of_selects (args := #[]) (mvT hZ (hw _ (List.mem_of_getElem? (i := 33) rfl)))) (mvT hZ (hw _ (List.mem_of_getElem? (i := 33) rfl))) (mvT hZ (hw _ (List.mem_of_getElem? (i := 32) rfl))) (by decide) (backOf (W := 0) (rmAddN1 l Z a0 hw [] vb (4641240890982006784 : UInt64) oo kk va (0 : Int32) (0 : Int32) (0 : Int32) (0 : Int32) (0 : Int32) (4636737291354636288 : UInt64) (0 : UInt64) (0 : UInt64) (0 : Int32) (0 : Int32) (0 : UInt64) (0 : UInt64) (0 : UInt64) (0 : Int32) (0 : Int32) (0 : Int32) (own_L0.set (va).toNatClampNeg (.int (0 : Int32))) T144.heap n0 hz144 hne hn ⟨SE_144, SF_candidates_144, SF_proposed_144, SF_confidences_144, SF_starts_144, SF_arranged_144, SF_taken_144, SF_indices_144, SF_cnt_144, SF_sz_144, SA_1_144, SA_2_144, SA_3_144, SA_4_144, SA_5_144, SA_6_144, SA_7_144⟩ (by first | exact own_len0 | (simp only [List.length_set]; exact own_len0)) hb_ (own_g1 va vb ha hb_ eab)) hZ (hw _ (List.mem_of_getElem? (i := 34) rfl)) (hw _ (List.mem_of_getElem? (i := 2) rfl)) (by decide) (by decide)) qa145 qc145 (g := (mkF m 55 #[.val (.int p1), .val (.int p2), .val (.int p3), .val (.int p4), .val (.int p5), .val (.int va), .val (.int vb), .val (.int vc), .val (.int ve), .val (.int vf), .val (.ref (oo 0)), .unset, .unset, .unset, .unset] [(.double (4641240890982006784 : UInt64)), (.int vb), (.ref (oo 0))])) rfl (by rw [hml]; rfl) (Steps.refl _) (argsL := [(.int vb), (.double (4641240890982006784 : UInt64))]) (rest := []) (lenOf pd_5 rfl) rfl (by show 2 * 0 + _ ≤ _; exact Nat.le_of_eq rfl) (hb hby at_55) (fun _ _ => ⟨rfl, rfl, (by decide : 8 + 0 ≤ _), (by decide : 254 + 0 ≤ _)⟩)
    dsimp only [Pt.U, Pt.locs, Pt.cells, Pt.slots] at X145 l145 y145 z145 st145 hQ145
    subst l145 y145 z145
    obtain ⟨rfl, Nq145, hz145, HS145⟩ := hQ145
    have N145 := Fr.app N144 Nq145
    obtain ⟨SE_145, SF_candidates_145, SF_proposed_145, SF_confidences_145, SF_starts_145, SF_arranged_145, SF_taken_145, SF_indices_145, SF_cnt_145, SF_sz_145, SA_1_145, SA_2_145, SA_3_145, SA_4_145, SA_5_145, SA_6_145, SA_7_145⟩ := HS145
    refine EndsQ.go (fun t k => st145.trans k) ?_
    show EndsQ _ _ _ _ _ _ _ (T145.setTop (mkF m 58 #[.val (.int p1), .val (.int p2), .val (.int p3), .val (.int p4), .val (.int p5), .val (.int va), .val (.int vb), .val (.int vc), .val (.int ve), .val (.int vf), .val (.ref (oo 0)), .unset, .unset, .unset, .unset] []))
    refine EndsQ.go (b := T145.setTop (mkF m 60 #[.val (.int p1), .val (.int p2), .val (.int p3), .val (.int p4), .val (.int p5), .val (.int va), .val (.int vb), .val (.int vc), .val (.int ve), .val (.int vf), .val (.ref (oo 0)), .unset, .unset, .unset, .unset] [(.ref (oo 0))])) (fun t k => ?_) ?_
    · show Steps p.tables e below (T145.setTop (mkF m 58 #[.val (.int p1), .val (.int p2), .val (.int p3), .val (.int p4), .val (.int p5), .val (.int va), .val (.int vb), .val (.int vc), .val (.int ve), .val (.int vf), .val (.ref (oo 0)), .unset, .unset, .unset, .unset] [])) _
      refine XS.aload X145.here hx rfl (hb hby at_58) rfl rfl ?_
      exact k
    obtain ⟨cq146, kq146, qa146, qb146, qc146⟩ := isOf hZ rfl SE_145
    obtain ⟨_, _, ⟨T146, L146, kk146, nn146⟩, -, X146, ⟨Lc146, hQ146, l146, y146, z146⟩, st146⟩ := X145.virtualBack hx (y := (⟨"com/example/physarum/physarum/Proposals", "clear", "()V"⟩ : MethodName)) (z := (⟨"com/example/physarum/physarum/Proposals", "clear", "()V"⟩ : MethodName)) hown (mvT hZ (hw _ (List.mem_of_getElem? (i := 40) rfl))) (mvT hZ (hw _ (List.mem_of_getElem? (i := 41) rfl))) (notFace_of_selects (args := #[]) (mvT hZ (hw _ (List.mem_of_getElem? (i := 43) rfl)))) (mvT hZ (hw _ (List.mem_of_getElem? (i := 43) rfl))) (mvT hZ (hw _ (List.mem_of_getElem? (i := 42) rfl))) (by decide) (backOf (W := 0) (rmClr2 l Z a0 hw [] oo kk va vb (0 : Int32) (0 : Int32) (1 : Int32) (0 : Int32) (4636737291354636288 : UInt64) (4641240890982006784 : UInt64) (0 : UInt64) (1 : Int32) (1 : Int32) (0 : Int32) (0 : UInt64) (0 : UInt64) (0 : UInt64) (0 : Int32) (0 : Int32) (0 : Int32) ((own_L0.set (va).toNatClampNeg (.int (0 : Int32))).set (vb).toNatClampNeg (.int (1 : Int32))) T145.heap n0 hz145 hne hn ⟨SE_145, SF_candidates_145, SF_proposed_145, SF_confidences_145, SF_starts_145, SF_arranged_145, SF_taken_145, SF_indices_145, SF_cnt_145, SF_sz_145, SA_1_145, SA_2_145, SA_3_145, SA_4_145, SA_5_145, SA_6_145, SA_7_145⟩ (by first | exact own_len0 | (simp only [List.length_set]; exact own_len0)) ha hb_) hZ (hw _ (List.mem_of_getElem? (i := 44) rfl)) (hw _ (List.mem_of_getElem? (i := 2) rfl)) (by decide) (by decide)) qa146 qc146 (g := (mkF m 60 #[.val (.int p1), .val (.int p2), .val (.int p3), .val (.int p4), .val (.int p5), .val (.int va), .val (.int vb), .val (.int vc), .val (.int ve), .val (.int vf), .val (.ref (oo 0)), .unset, .unset, .unset, .unset] [(.ref (oo 0))])) rfl (by rw [hml]; rfl) (Steps.refl _) (argsL := []) (rest := []) (lenOf pd_6 rfl) rfl (by show 2 * 0 + _ ≤ _; exact Nat.le_of_eq rfl) (hb hby at_60) (fun _ _ => ⟨rfl, rfl, (by decide : 8 + 0 ≤ _), (by decide : 254 + 0 ≤ _)⟩)
    dsimp only [Pt.U, Pt.locs, Pt.cells, Pt.slots] at X146 l146 y146 z146 st146 hQ146
    subst l146 y146 z146
    obtain ⟨rfl, Nq146, hz146, HS146⟩ := hQ146
    have N146 := Fr.app N145 Nq146
    obtain ⟨SE_146, SF_candidates_146, SF_proposed_146, SF_confidences_146, SF_starts_146, SF_arranged_146, SF_taken_146, SF_indices_146, SF_cnt_146, SF_sz_146, SA_1_146, SA_2_146, SA_3_146, SA_4_146, SA_5_146, SA_6_146, SA_7_146⟩ := HS146
    refine EndsQ.go (fun t k => st146.trans k) ?_
    show EndsQ _ _ _ _ _ _ _ (T146.setTop (mkF m 63 #[.val (.int p1), .val (.int p2), .val (.int p3), .val (.int p4), .val (.int p5), .val (.int va), .val (.int vb), .val (.int vc), .val (.int ve), .val (.int vf), .val (.ref (oo 0)), .unset, .unset, .unset, .unset] []))
    have fx147 : Arv Z T146.heap (oo 7) (kk 7) .int (4 : Int32) own_L0 (.int (0 : Int32)) := by
      have q := SA_7_146
      rw [(own_clr2 va vb ha hb_)] at q
      exact q
    by_cases eca : vc = va
    · have hq_eca := eca
      refine EndsQ.go (b := T146.setTop (mkF m 70 #[.val (.int p1), .val (.int p2), .val (.int p3), .val (.int p4), .val (.int p5), .val (.int va), .val (.int vb), .val (.int vc), .val (.int ve), .val (.int vf), .val (.ref (oo 0)), .unset, .unset, .unset, .unset] [(.double (FP.l2d (ve.toInt64))), (.int vc), (.ref (oo 0))])) (fun t k => ?_) ?_
      · show Steps p.tables e below (T146.setTop (mkF m 63 #[.val (.int p1), .val (.int p2), .val (.int p3), .val (.int p4), .val (.int p5), .val (.int va), .val (.int vb), .val (.int vc), .val (.int ve), .val (.int vf), .val (.ref (oo 0)), .unset, .unset, .unset, .unset] [])) _
        refine XS.aload X146.here hx rfl (hb hby at_63) rfl rfl ?_
        show Steps p.tables e below (T146.setTop (mkF m 65 #[.val (.int p1), .val (.int p2), .val (.int p3), .val (.int p4), .val (.int p5), .val (.int va), .val (.int vb), .val (.int vc), .val (.int ve), .val (.int vf), .val (.ref (oo 0)), .unset, .unset, .unset, .unset] [(.ref (oo 0))])) _
        refine XS.iload X146.here hx rfl (hb hby at_65) rfl ?_
        refine XS.iload X146.here hx rfl (hb hby at_67) rfl ?_
        refine XS.i2dS X146.here hx rfl (hb hby at_69) rfl (i2d_w _) ?_
        exact k
      obtain ⟨cq148, kq148, qa148, qb148, qc148⟩ := isOf hZ rfl SE_146
      obtain ⟨_, _, ⟨T148, L148, kk148, nn148⟩, -, X148, ⟨Lc148, hQ148, l148, y148, z148⟩, st148⟩ := X146.virtualBack hx (y := (⟨"com/example/physarum/physarum/Proposals", "add", "(ID)V"⟩ : MethodName)) (z := (⟨"com/example/physarum/physarum/Proposals", "add", "(ID)V"⟩ : MethodName)) hown (mvT hZ (hw _ (List.mem_of_getElem? (i := 30) rfl))) (mvT hZ (hw _ (List.mem_of_getElem? (i := 31) rfl))) (notFace_of_selects (args := #[]) (mvT hZ (hw _ (List.mem_of_getElem? (i := 33) rfl)))) (mvT hZ (hw _ (List.mem_of_getElem? (i := 33) rfl))) (mvT hZ (hw _ (List.mem_of_getElem? (i := 32) rfl))) (by decide) (backOf (W := 0) (rmAddN0 l Z a0 hw [] vc (FP.l2d (ve.toInt64)) oo kk va vb (0 : Int32) (0 : Int32) (1 : Int32) (0 : Int32) (4636737291354636288 : UInt64) (4641240890982006784 : UInt64) (0 : UInt64) (1 : Int32) (1 : Int32) (0 : Int32) (0 : UInt64) (0 : UInt64) (0 : UInt64) (0 : Int32) (0 : Int32) (0 : Int32) own_L0 T146.heap n0 hz146 hne hn ⟨SE_146, SF_candidates_146, SF_proposed_146, SF_confidences_146, SF_starts_146, SF_arranged_146, SF_taken_146, SF_indices_146, SF_cnt_146, SF_sz_146, SA_1_146, SA_2_146, SA_3_146, SA_4_146, SA_5_146, SA_6_146, fx147⟩ (by first | exact own_len0 | (simp only [List.length_set]; exact own_len0)) hc_ (own_g0 vc hc_)) hZ (hw _ (List.mem_of_getElem? (i := 34) rfl)) (hw _ (List.mem_of_getElem? (i := 2) rfl)) (by decide) (by decide)) qa148 qc148 (g := (mkF m 70 #[.val (.int p1), .val (.int p2), .val (.int p3), .val (.int p4), .val (.int p5), .val (.int va), .val (.int vb), .val (.int vc), .val (.int ve), .val (.int vf), .val (.ref (oo 0)), .unset, .unset, .unset, .unset] [(.double (FP.l2d (ve.toInt64))), (.int vc), (.ref (oo 0))])) rfl (by rw [hml]; rfl) (Steps.refl _) (argsL := [(.int vc), (.double (FP.l2d (ve.toInt64)))]) (rest := []) (lenOf pd_5 rfl) rfl (by show 2 * 0 + _ ≤ _; exact Nat.le_of_eq rfl) (hb hby at_70) (fun _ _ => ⟨rfl, rfl, (by decide : 8 + 0 ≤ _), (by decide : 254 + 0 ≤ _)⟩)
      dsimp only [Pt.U, Pt.locs, Pt.cells, Pt.slots] at X148 l148 y148 z148 st148 hQ148
      subst l148 y148 z148
      obtain ⟨rfl, Nq148, hz148, HS148⟩ := hQ148
      have N148 := Fr.app N146 Nq148
      obtain ⟨SE_148, SF_candidates_148, SF_proposed_148, SF_confidences_148, SF_starts_148, SF_arranged_148, SF_taken_148, SF_indices_148, SF_cnt_148, SF_sz_148, SA_1_148, SA_2_148, SA_3_148, SA_4_148, SA_5_148, SA_6_148, SA_7_148⟩ := HS148
      refine EndsQ.go (fun t k => st148.trans k) ?_
      show EndsQ _ _ _ _ _ _ _ (T148.setTop (mkF m 73 #[.val (.int p1), .val (.int p2), .val (.int p3), .val (.int p4), .val (.int p5), .val (.int va), .val (.int vb), .val (.int vc), .val (.int ve), .val (.int vf), .val (.ref (oo 0)), .unset, .unset, .unset, .unset] []))
      refine EndsQ.go (b := T148.setTop (mkF m 80 #[.val (.int p1), .val (.int p2), .val (.int p3), .val (.int p4), .val (.int p5), .val (.int va), .val (.int vb), .val (.int vc), .val (.int ve), .val (.int vf), .val (.ref (oo 0)), .unset, .unset, .unset, .unset] [(.double (FP.l2d (vf.toInt64))), (.int va), (.ref (oo 0))])) (fun t k => ?_) ?_
      · show Steps p.tables e below (T148.setTop (mkF m 73 #[.val (.int p1), .val (.int p2), .val (.int p3), .val (.int p4), .val (.int p5), .val (.int va), .val (.int vb), .val (.int vc), .val (.int ve), .val (.int vf), .val (.ref (oo 0)), .unset, .unset, .unset, .unset] [])) _
        refine XS.aload X148.here hx rfl (hb hby at_73) rfl rfl ?_
        show Steps p.tables e below (T148.setTop (mkF m 75 #[.val (.int p1), .val (.int p2), .val (.int p3), .val (.int p4), .val (.int p5), .val (.int va), .val (.int vb), .val (.int vc), .val (.int ve), .val (.int vf), .val (.ref (oo 0)), .unset, .unset, .unset, .unset] [(.ref (oo 0))])) _
        refine XS.iload X148.here hx rfl (hb hby at_75) rfl ?_
        refine XS.iload X148.here hx rfl (hb hby at_77) rfl ?_
        refine XS.i2dS X148.here hx rfl (hb hby at_79) rfl (i2d_w _) ?_
        exact k
      obtain ⟨cq149, kq149, qa149, qb149, qc149⟩ := isOf hZ rfl SE_148
      obtain ⟨_, _, ⟨T149, L149, kk149, nn149⟩, -, X149, ⟨Lc149, hQ149, l149, y149, z149⟩, st149⟩ := X148.virtualBack hx (y := (⟨"com/example/physarum/physarum/Proposals", "add", "(ID)V"⟩ : MethodName)) (z := (⟨"com/example/physarum/physarum/Proposals", "add", "(ID)V"⟩ : MethodName)) hown (mvT hZ (hw _ (List.mem_of_getElem? (i := 30) rfl))) (mvT hZ (hw _ (List.mem_of_getElem? (i := 31) rfl))) (notFace_of_selects (args := #[]) (mvT hZ (hw _ (List.mem_of_getElem? (i := 33) rfl)))) (mvT hZ (hw _ (List.mem_of_getElem? (i := 33) rfl))) (mvT hZ (hw _ (List.mem_of_getElem? (i := 32) rfl))) (by decide) (backOf (W := 0) (rmAddO1 l Z a0 hw [] va (FP.l2d (vf.toInt64)) oo kk vc vb (0 : Int32) (0 : Int32) (1 : Int32) (0 : Int32) (FP.l2d (ve.toInt64)) (4641240890982006784 : UInt64) (0 : UInt64) (1 : Int32) (0 : Int32) (0 : UInt64) (0 : UInt64) (0 : UInt64) (0 : Int32) (0 : Int32) (0 : Int32) (own_L0.set (vc).toNatClampNeg (.int (0 : Int32))) T148.heap n0 hz148 hne hn ⟨SE_148, SF_candidates_148, SF_proposed_148, SF_confidences_148, SF_starts_148, SF_arranged_148, SF_taken_148, SF_indices_148, SF_cnt_148, SF_sz_148, SA_1_148, SA_2_148, SA_3_148, SA_4_148, SA_5_148, SA_6_148, SA_7_148⟩ (by first | exact own_len0 | (simp only [List.length_set]; exact own_len0)) ha (own_g2 vc va hc_ eca)) hZ (hw _ (List.mem_of_getElem? (i := 34) rfl)) (hw _ (List.mem_of_getElem? (i := 2) rfl)) (by decide) (by decide)) qa149 qc149 (g := (mkF m 80 #[.val (.int p1), .val (.int p2), .val (.int p3), .val (.int p4), .val (.int p5), .val (.int va), .val (.int vb), .val (.int vc), .val (.int ve), .val (.int vf), .val (.ref (oo 0)), .unset, .unset, .unset, .unset] [(.double (FP.l2d (vf.toInt64))), (.int va), (.ref (oo 0))])) rfl (by rw [hml]; rfl) (Steps.refl _) (argsL := [(.int va), (.double (FP.l2d (vf.toInt64)))]) (rest := []) (lenOf pd_5 rfl) rfl (by show 2 * 0 + _ ≤ _; exact Nat.le_of_eq rfl) (hb hby at_80) (fun _ _ => ⟨rfl, rfl, (by decide : 8 + 0 ≤ _), (by decide : 254 + 0 ≤ _)⟩)
      dsimp only [Pt.U, Pt.locs, Pt.cells, Pt.slots] at X149 l149 y149 z149 st149 hQ149
      subst l149 y149 z149
      obtain ⟨rfl, Nq149, hz149, HS149⟩ := hQ149
      have N149 := Fr.app N148 Nq149
      obtain ⟨SE_149, SF_candidates_149, SF_proposed_149, SF_confidences_149, SF_starts_149, SF_arranged_149, SF_taken_149, SF_indices_149, SF_cnt_149, SF_sz_149, SA_1_149, SA_2_149, SA_3_149, SA_4_149, SA_5_149, SA_6_149, SA_7_149⟩ := HS149
      refine EndsQ.go (fun t k => st149.trans k) ?_
      show EndsQ _ _ _ _ _ _ _ (T149.setTop (mkF m 83 #[.val (.int p1), .val (.int p2), .val (.int p3), .val (.int p4), .val (.int p5), .val (.int va), .val (.int vb), .val (.int vc), .val (.int ve), .val (.int vf), .val (.ref (oo 0)), .unset, .unset, .unset, .unset] []))
      refine EndsQ.go (b := T149.setTop (mkF m 85 #[.val (.int p1), .val (.int p2), .val (.int p3), .val (.int p4), .val (.int p5), .val (.int va), .val (.int vb), .val (.int vc), .val (.int ve), .val (.int vf), .val (.ref (oo 0)), .unset, .unset, .unset, .unset] [(.ref (oo 0))])) (fun t k => ?_) ?_
      · show Steps p.tables e below (T149.setTop (mkF m 83 #[.val (.int p1), .val (.int p2), .val (.int p3), .val (.int p4), .val (.int p5), .val (.int va), .val (.int vb), .val (.int vc), .val (.int ve), .val (.int vf), .val (.ref (oo 0)), .unset, .unset, .unset, .unset] [])) _
        refine XS.aload X149.here hx rfl (hb hby at_83) rfl rfl ?_
        show Steps p.tables e below (T149.setTop (mkF m 85 #[.val (.int p1), .val (.int p2), .val (.int p3), .val (.int p4), .val (.int p5), .val (.int va), .val (.int vb), .val (.int vc), .val (.int ve), .val (.int vf), .val (.ref (oo 0)), .unset, .unset, .unset, .unset] [(.ref (oo 0))])) _
        exact k
      obtain ⟨cq150, kq150, qa150, qb150, qc150⟩ := isOf hZ rfl SE_149
      obtain ⟨_, _, ⟨T150, L150, kk150, nn150⟩, -, X150, ⟨Lc150, hQ150, l150, y150, z150⟩, st150⟩ := X149.virtualBack hx (y := (⟨"com/example/physarum/physarum/Proposals", "arrange", "()V"⟩ : MethodName)) (z := (⟨"com/example/physarum/physarum/Proposals", "arrange", "()V"⟩ : MethodName)) hown (mvT hZ (hw _ (List.mem_of_getElem? (i := 45) rfl))) (mvT hZ (hw _ (List.mem_of_getElem? (i := 46) rfl))) (notFace_of_selects (args := #[]) (mvT hZ (hw _ (List.mem_of_getElem? (i := 48) rfl)))) (mvT hZ (hw _ (List.mem_of_getElem? (i := 48) rfl))) (mvT hZ (hw _ (List.mem_of_getElem? (i := 47) rfl))) (by decide) (backOf (W := 0) (rmArr1 l Z a0 hw [] oo kk vc vb (0 : Int32) (0 : Int32) (0 : UInt64) (1 : Int32) (0 : Int32) (0 : UInt64) (0 : UInt64) (0 : UInt64) (0 : Int32) (0 : Int32) (0 : Int32) (own_L0.set (vc).toNatClampNeg (.int (0 : Int32))) (ve.toInt64) (vf.toInt64) T149.heap n0 hz149 hne hn ⟨SE_149, SF_candidates_149, SF_proposed_149, SF_confidences_149, SF_starts_149, SF_arranged_149, SF_taken_149, SF_indices_149, SF_cnt_149, SF_sz_149, SA_1_149, SA_2_149, SA_3_149, SA_4_149, SA_5_149, SA_6_149, SA_7_149⟩ (own_b53 ve) (own_b53 vf)) hZ (hw _ (List.mem_of_getElem? (i := 49) rfl)) (hw _ (List.mem_of_getElem? (i := 2) rfl)) (by decide) (by decide)) qa150 qc150 (g := (mkF m 85 #[.val (.int p1), .val (.int p2), .val (.int p3), .val (.int p4), .val (.int p5), .val (.int va), .val (.int vb), .val (.int vc), .val (.int ve), .val (.int vf), .val (.ref (oo 0)), .unset, .unset, .unset, .unset] [(.ref (oo 0))])) rfl (by rw [hml]; rfl) (Steps.refl _) (argsL := []) (rest := []) (lenOf pd_6 rfl) rfl (by show 2 * 0 + _ ≤ _; exact Nat.le_of_eq rfl) (hb hby at_85) (fun _ _ => ⟨rfl, rfl, (by decide : 8 + 0 ≤ _), (by decide : 254 + 0 ≤ _)⟩)
      dsimp only [Pt.U, Pt.locs, Pt.cells, Pt.slots] at X150 l150 y150 z150 st150 hQ150
      subst l150 y150 z150
      obtain ⟨rfl, Nq150, hz150, HS150⟩ := hQ150
      have N150 := Fr.app N149 Nq150
      obtain ⟨SE_150, SF_candidates_150, SF_proposed_150, SF_confidences_150, SF_starts_150, SF_arranged_150, SF_taken_150, SF_indices_150, SF_cnt_150, SF_sz_150, SA_1_150, SA_2_150, SA_3_150, SA_4_150, SA_5_150, SA_6_150, SA_7_150⟩ := HS150
      refine EndsQ.go (fun t k => st150.trans k) ?_
      show EndsQ _ _ _ _ _ _ _ (T150.setTop (mkF m 88 #[.val (.int p1), .val (.int p2), .val (.int p3), .val (.int p4), .val (.int p5), .val (.int va), .val (.int vb), .val (.int vc), .val (.int ve), .val (.int vf), .val (.ref (oo 0)), .unset, .unset, .unset, .unset] []))
      refine EndsQ.go (b := T150.setTop (mkF m 135 #[.val (.int p1), .val (.int p2), .val (.int p3), .val (.int p4), .val (.int p5), .val (.int va), .val (.int vb), .val (.int vc), .val (.int ve), .val (.int vf), .val (.ref (oo 0)), .val (.int (1 : Int32)), .val (.int (1 : Int32)), .val (.int (2 : Int32)), .unset] [(.int vf), (.int ve)])) (fun t k => ?_) ?_
      · show Steps p.tables e below (T150.setTop (mkF m 88 #[.val (.int p1), .val (.int p2), .val (.int p3), .val (.int p4), .val (.int p5), .val (.int va), .val (.int vb), .val (.int vc), .val (.int ve), .val (.int vf), .val (.ref (oo 0)), .unset, .unset, .unset, .unset] [])) _
        refine XS.iload X150.here hx rfl (hb hby at_88) rfl ?_
        refine XS.iload X150.here hx rfl (hb hby at_90) rfl ?_
        refine XS.icmpNo X150.here hx rfl (hb hby at_92) rfl (teq eca).2 ?_
        show Steps p.tables e below (T150.setTop (mkF m 95 #[.val (.int p1), .val (.int p2), .val (.int p3), .val (.int p4), .val (.int p5), .val (.int va), .val (.int vb), .val (.int vc), .val (.int ve), .val (.int vf), .val (.ref (oo 0)), .unset, .unset, .unset, .unset] [])) _
        refine XS.iconst X150.here hx rfl (hb hby at_95) ?_
        refine XS.goto X150.here hx rfl (pc0 := 96) (pc' := 100) rfl (hb hby at_96) (by decide) (by decide) ?_
        show Steps p.tables e below (T150.setTop (mkF m 100 #[.val (.int p1), .val (.int p2), .val (.int p3), .val (.int p4), .val (.int p5), .val (.int va), .val (.int vb), .val (.int vc), .val (.int ve), .val (.int vf), .val (.ref (oo 0)), .unset, .unset, .unset, .unset] [(.int (1 : Int32))])) _
        refine XS.istore X150.here hx rfl (hb hby at_100) rfl (l' := #[.val (.int p1), .val (.int p2), .val (.int p3), .val (.int p4), .val (.int p5), .val (.int va), .val (.int vb), .val (.int vc), .val (.int ve), .val (.int vf), .val (.ref (oo 0)), .val (.int (1 : Int32)), .unset, .unset, .unset]) rfl ?_
        refine XS.iload X150.here hx rfl (hb hby at_102) rfl ?_
        refine XS.ifNo X150.here hx rfl (hb hby at_104) rfl ((if0 _ _).trans (feq (by decide)).1) ?_
        show Steps p.tables e below (T150.setTop (mkF m 107 #[.val (.int p1), .val (.int p2), .val (.int p3), .val (.int p4), .val (.int p5), .val (.int va), .val (.int vb), .val (.int vc), .val (.int ve), .val (.int vf), .val (.ref (oo 0)), .val (.int (1 : Int32)), .unset, .unset, .unset] [])) _
        refine XS.iconst X150.here hx rfl (hb hby at_107) ?_
        refine XS.goto X150.here hx rfl (pc0 := 108) (pc' := 112) rfl (hb hby at_108) (by decide) (by decide) ?_
        show Steps p.tables e below (T150.setTop (mkF m 112 #[.val (.int p1), .val (.int p2), .val (.int p3), .val (.int p4), .val (.int p5), .val (.int va), .val (.int vb), .val (.int vc), .val (.int ve), .val (.int vf), .val (.ref (oo 0)), .val (.int (1 : Int32)), .unset, .unset, .unset] [(.int (1 : Int32))])) _
        refine XS.istore X150.here hx rfl (hb hby at_112) rfl (l' := #[.val (.int p1), .val (.int p2), .val (.int p3), .val (.int p4), .val (.int p5), .val (.int va), .val (.int vb), .val (.int vc), .val (.int ve), .val (.int vf), .val (.ref (oo 0)), .val (.int (1 : Int32)), .val (.int (1 : Int32)), .unset, .unset]) rfl ?_
        refine XS.iload X150.here hx rfl (hb hby at_114) rfl ?_
        refine XS.ifNo X150.here hx rfl (hb hby at_116) rfl ((if0 _ _).trans (feq (by decide)).1) ?_
        show Steps p.tables e below (T150.setTop (mkF m 119 #[.val (.int p1), .val (.int p2), .val (.int p3), .val (.int p4), .val (.int p5), .val (.int va), .val (.int vb), .val (.int vc), .val (.int ve), .val (.int vf), .val (.ref (oo 0)), .val (.int (1 : Int32)), .val (.int (1 : Int32)), .unset, .unset] [])) _
        refine XS.iconst X150.here hx rfl (hb hby at_119) ?_
        refine XS.goto X150.here hx rfl (pc0 := 120) (pc' := 124) rfl (hb hby at_120) (by decide) (by decide) ?_
        show Steps p.tables e below (T150.setTop (mkF m 124 #[.val (.int p1), .val (.int p2), .val (.int p3), .val (.int p4), .val (.int p5), .val (.int va), .val (.int vb), .val (.int vc), .val (.int ve), .val (.int vf), .val (.ref (oo 0)), .val (.int (1 : Int32)), .val (.int (1 : Int32)), .unset, .unset] [(.int (2 : Int32))])) _
        refine XS.istore X150.here hx rfl (hb hby at_124) rfl (l' := #[.val (.int p1), .val (.int p2), .val (.int p3), .val (.int p4), .val (.int p5), .val (.int va), .val (.int vb), .val (.int vc), .val (.int ve), .val (.int vf), .val (.ref (oo 0)), .val (.int (1 : Int32)), .val (.int (1 : Int32)), .val (.int (2 : Int32)), .unset]) rfl ?_
        refine XS.iload X150.here hx rfl (hb hby at_126) rfl ?_
        refine XS.ifNo X150.here hx rfl (hb hby at_128) rfl ((if0 _ _).trans (feq (by decide)).1) ?_
        show Steps p.tables e below (T150.setTop (mkF m 131 #[.val (.int p1), .val (.int p2), .val (.int p3), .val (.int p4), .val (.int p5), .val (.int va), .val (.int vb), .val (.int vc), .val (.int ve), .val (.int vf), .val (.ref (oo 0)), .val (.int (1 : Int32)), .val (.int (1 : Int32)), .val (.int (2 : Int32)), .unset] [])) _
        refine XS.iload X150.here hx rfl (hb hby at_131) rfl ?_
        refine XS.iload X150.here hx rfl (hb hby at_133) rfl ?_
        show Steps p.tables e below (T150.setTop (mkF m 135 #[.val (.int p1), .val (.int p2), .val (.int p3), .val (.int p4), .val (.int p5), .val (.int va), .val (.int vb), .val (.int vc), .val (.int ve), .val (.int vf), .val (.ref (oo 0)), .val (.int (1 : Int32)), .val (.int (1 : Int32)), .val (.int (2 : Int32)), .unset] [(.int vf), (.int ve)])) _
        exact k
      obtain ⟨_, _, ⟨T151, L151, kk151, nn151⟩, -, X151, ⟨Lc151, hQ151, l151, y151, z151⟩, st151⟩ := Jvm.LawKit.callS X150 hx (y := (⟨"java/lang/Math", "max", "(II)I"⟩ : MethodName)) hown (mvT hZ (hw _ (List.mem_of_getElem? (i := 80) rfl))) (mvT hZ (hw _ (List.mem_of_getElem? (i := 81) rfl))) (mvT hZ (hw _ (List.mem_of_getElem? (i := 82) rfl))) (mvT hZ (hw _ (List.mem_of_getElem? (i := 83) rfl))) (by decide) (backOf (W := 0) (rmMax l Z a0 hw [] ve vf T150.heap n0 hz150 ) hZ (hw _ (List.mem_of_getElem? (i := 83) rfl)) (hw _ (List.mem_of_getElem? (i := 82) rfl)) (by decide) (by decide)) (g := (mkF m 135 #[.val (.int p1), .val (.int p2), .val (.int p3), .val (.int p4), .val (.int p5), .val (.int va), .val (.int vb), .val (.int vc), .val (.int ve), .val (.int vf), .val (.ref (oo 0)), .val (.int (1 : Int32)), .val (.int (1 : Int32)), .val (.int (2 : Int32)), .unset] [(.int vf), (.int ve)])) rfl (by rw [hml]; rfl) (argsL := [(.int ve), (.int vf)]) (rest := []) (lenOf pd_7 rfl) rfl (by show 2 * 0 + _ ≤ _; exact Nat.le_of_eq rfl) (hb hby at_135) (fun _ _ => ⟨rfl, rfl, (by decide : 8 + 0 ≤ _), (by decide : 254 + 0 ≤ _)⟩)
      dsimp only [Pt.U, Pt.locs, Pt.cells, Pt.slots] at X151 l151 y151 z151 st151 hQ151
      subst l151 y151 z151
      obtain ⟨rfl, Nq151, eq151⟩ := hQ151
      have N151 := Fr.app N150 Nq151
      refine EndsQ.go st151 ?_
      show EndsQ _ _ _ _ _ _ _ (T151.setTop (mkF m 138 #[.val (.int p1), .val (.int p2), .val (.int p3), .val (.int p4), .val (.int p5), .val (.int va), .val (.int vb), .val (.int vc), .val (.int ve), .val (.int vf), .val (.ref (oo 0)), .val (.int (1 : Int32)), .val (.int (1 : Int32)), .val (.int (2 : Int32)), .unset] [(.int (own_max ve vf))]))
      refine EndsQ.go (b := T151.setTop (mkF m 147 #[.val (.int p1), .val (.int p2), .val (.int p3), .val (.int p4), .val (.int p5), .val (.int va), .val (.int vb), .val (.int vc), .val (.int ve), .val (.int vf), .val (.ref (oo 0)), .val (.int (1 : Int32)), .val (.int (1 : Int32)), .val (.int (2 : Int32)), .val (.int (own_max ve vf))] [(.ref (oo 0))])) (fun t k => ?_) ?_
      · show Steps p.tables e below (T151.setTop (mkF m 138 #[.val (.int p1), .val (.int p2), .val (.int p3), .val (.int p4), .val (.int p5), .val (.int va), .val (.int vb), .val (.int vc), .val (.int ve), .val (.int vf), .val (.ref (oo 0)), .val (.int (1 : Int32)), .val (.int (1 : Int32)), .val (.int (2 : Int32)), .unset] [(.int (own_max ve vf))])) _
        refine XS.goto X151.here hx rfl (pc0 := 138) (pc' := 143) rfl (hb hby at_138) (by decide) (by decide) ?_
        refine XS.istore X151.here hx rfl (hb hby at_143) rfl (l' := #[.val (.int p1), .val (.int p2), .val (.int p3), .val (.int p4), .val (.int p5), .val (.int va), .val (.int vb), .val (.int vc), .val (.int ve), .val (.int vf), .val (.ref (oo 0)), .val (.int (1 : Int32)), .val (.int (1 : Int32)), .val (.int (2 : Int32)), .val (.int (own_max ve vf))]) rfl ?_
        refine XS.aload X151.here hx rfl (hb hby at_145) rfl rfl ?_
        exact k
      obtain ⟨cq152, kq152, qa152, qb152, qc152⟩ := isOf hZ eq151 SE_150
      obtain ⟨_, _, ⟨T152, L152, kk152, nn152⟩, -, X152, ⟨Lc152, hQ152, l152, y152, z152⟩, st152⟩ := X151.virtualBack hx (y := (⟨"com/example/physarum/physarum/Proposals", "size", "()I"⟩ : MethodName)) (z := (⟨"com/example/physarum/physarum/Proposals", "size", "()I"⟩ : MethodName)) hown (mvT hZ (hw _ (List.mem_of_getElem? (i := 55) rfl))) (mvT hZ (hw _ (List.mem_of_getElem? (i := 56) rfl))) (notFace_of_selects (args := #[]) (mvT hZ (hw _ (List.mem_of_getElem? (i := 58) rfl)))) (mvT hZ (hw _ (List.mem_of_getElem? (i := 58) rfl))) (mvT hZ (hw _ (List.mem_of_getElem? (i := 57) rfl))) (by decide) (backOf (W := 0) (rmSz l Z a0 hw [] oo kk vc vb (0 : Int32) (0 : Int32) (0 : Int32) (0 : Int32) (FP.l2d (ve.toInt64)) (FP.l2d (vf.toInt64)) (0 : UInt64) (0 : Int32) (2 : Int32) (0 : Int32) (FP.l2d (if (ve.toInt64) < (vf.toInt64) then (vf.toInt64) else (ve.toInt64))) (FP.l2d (if (ve.toInt64) < (vf.toInt64) then (ve.toInt64) else (vf.toInt64))) (0 : UInt64) (0 : Int32) (0 : Int32) (0 : Int32) (own_L0.set (vc).toNatClampNeg (.int (0 : Int32))) (1 : Int32) (2 : Int32) T150.heap n0 hz150 hne hn ⟨SE_150, SF_candidates_150, SF_proposed_150, SF_confidences_150, SF_starts_150, SF_arranged_150, SF_taken_150, SF_indices_150, SF_cnt_150, SF_sz_150, SA_1_150, SA_2_150, SA_3_150, SA_4_150, SA_5_150, SA_6_150, SA_7_150⟩) hZ (hw _ (List.mem_of_getElem? (i := 59) rfl)) (hw _ (List.mem_of_getElem? (i := 2) rfl)) (by decide) (by decide)) qa152 qc152 (g := (mkF m 147 #[.val (.int p1), .val (.int p2), .val (.int p3), .val (.int p4), .val (.int p5), .val (.int va), .val (.int vb), .val (.int vc), .val (.int ve), .val (.int vf), .val (.ref (oo 0)), .val (.int (1 : Int32)), .val (.int (1 : Int32)), .val (.int (2 : Int32)), .val (.int (own_max ve vf))] [(.ref (oo 0))])) rfl (by rw [hml]; rfl) (Steps.refl _) (argsL := []) (rest := []) (lenOf pd_8 rfl) rfl (by show 2 * 0 + _ ≤ _; exact Nat.le_of_eq rfl) (hb hby at_147) (fun _ _ => ⟨rfl, eq151, (by decide : 8 + 0 ≤ _), (by decide : 254 + 0 ≤ _)⟩)
      dsimp only [Pt.U, Pt.locs, Pt.cells, Pt.slots] at X152 l152 y152 z152 st152 hQ152
      subst l152 y152 z152
      obtain ⟨rfl, Nq152, eq152⟩ := hQ152
      have N152 := Fr.app N151 Nq152
      refine EndsQ.go (fun t k => st152.trans k) ?_
      show EndsQ _ _ _ _ _ _ _ (T152.setTop (mkF m 150 #[.val (.int p1), .val (.int p2), .val (.int p3), .val (.int p4), .val (.int p5), .val (.int va), .val (.int vb), .val (.int vc), .val (.int ve), .val (.int vf), .val (.ref (oo 0)), .val (.int (1 : Int32)), .val (.int (1 : Int32)), .val (.int (2 : Int32)), .val (.int (own_max ve vf))] [(.int (1 : Int32))]))
      refine EndsQ.go (b := T152.setTop (mkF m 158 #[.val (.int p1), .val (.int p2), .val (.int p3), .val (.int p4), .val (.int p5), .val (.int va), .val (.int vb), .val (.int vc), .val (.int ve), .val (.int vf), .val (.ref (oo 0)), .val (.int (1 : Int32)), .val (.int (1 : Int32)), .val (.int (2 : Int32)), .val (.int (own_max ve vf))] [(.int (0 : Int32)), (.ref (oo 0))])) (fun t k => ?_) ?_
      · show Steps p.tables e below (T152.setTop (mkF m 150 #[.val (.int p1), .val (.int p2), .val (.int p3), .val (.int p4), .val (.int p5), .val (.int va), .val (.int vb), .val (.int vc), .val (.int ve), .val (.int vf), .val (.ref (oo 0)), .val (.int (1 : Int32)), .val (.int (1 : Int32)), .val (.int (2 : Int32)), .val (.int (own_max ve vf))] [(.int (1 : Int32))])) _
        refine XS.iload X152.here hx rfl (hb hby at_150) rfl ?_
        show Steps p.tables e below (T152.setTop (mkF m 152 #[.val (.int p1), .val (.int p2), .val (.int p3), .val (.int p4), .val (.int p5), .val (.int va), .val (.int vb), .val (.int vc), .val (.int ve), .val (.int vf), .val (.ref (oo 0)), .val (.int (1 : Int32)), .val (.int (1 : Int32)), .val (.int (2 : Int32)), .val (.int (own_max ve vf))] [(.int (1 : Int32)), (.int (1 : Int32))])) _
        refine XS.icmpNo X152.here hx rfl (hb hby at_152) rfl (teq (by decide)).2 ?_
        show Steps p.tables e below (T152.setTop (mkF m 155 #[.val (.int p1), .val (.int p2), .val (.int p3), .val (.int p4), .val (.int p5), .val (.int va), .val (.int vb), .val (.int vc), .val (.int ve), .val (.int vf), .val (.ref (oo 0)), .val (.int (1 : Int32)), .val (.int (1 : Int32)), .val (.int (2 : Int32)), .val (.int (own_max ve vf))] [])) _
        refine XS.aload X152.here hx rfl (hb hby at_155) rfl rfl ?_
        refine XS.iconst X152.here hx rfl (hb hby at_157) ?_
        exact k
      obtain ⟨cq153, kq153, qa153, qb153, qc153⟩ := isOf hZ eq152 SE_150
      obtain ⟨_, _, ⟨T153, L153, kk153, nn153⟩, -, X153, ⟨Lc153, hQ153, l153, y153, z153⟩, st153⟩ := X152.virtualBack hx (y := (⟨"com/example/physarum/physarum/Proposals", "candidate", "(I)I"⟩ : MethodName)) (z := (⟨"com/example/physarum/physarum/Proposals", "candidate", "(I)I"⟩ : MethodName)) hown (mvT hZ (hw _ (List.mem_of_getElem? (i := 60) rfl))) (mvT hZ (hw _ (List.mem_of_getElem? (i := 61) rfl))) (notFace_of_selects (args := #[]) (mvT hZ (hw _ (List.mem_of_getElem? (i := 63) rfl)))) (mvT hZ (hw _ (List.mem_of_getElem? (i := 63) rfl))) (mvT hZ (hw _ (List.mem_of_getElem? (i := 62) rfl))) (by decide) (backOf (W := 0) (rmCa l Z a0 hw [] oo kk vc vb (0 : Int32) (0 : Int32) (0 : Int32) (0 : Int32) (FP.l2d (ve.toInt64)) (FP.l2d (vf.toInt64)) (0 : UInt64) (0 : Int32) (2 : Int32) (0 : Int32) (FP.l2d (if (ve.toInt64) < (vf.toInt64) then (vf.toInt64) else (ve.toInt64))) (FP.l2d (if (ve.toInt64) < (vf.toInt64) then (ve.toInt64) else (vf.toInt64))) (0 : UInt64) (0 : Int32) (0 : Int32) (0 : Int32) (own_L0.set (vc).toNatClampNeg (.int (0 : Int32))) (1 : Int32) (2 : Int32) T150.heap n0 hz150 hne hn ⟨SE_150, SF_candidates_150, SF_proposed_150, SF_confidences_150, SF_starts_150, SF_arranged_150, SF_taken_150, SF_indices_150, SF_cnt_150, SF_sz_150, SA_1_150, SA_2_150, SA_3_150, SA_4_150, SA_5_150, SA_6_150, SA_7_150⟩) hZ (hw _ (List.mem_of_getElem? (i := 64) rfl)) (hw _ (List.mem_of_getElem? (i := 2) rfl)) (by decide) (by decide)) qa153 qc153 (g := (mkF m 158 #[.val (.int p1), .val (.int p2), .val (.int p3), .val (.int p4), .val (.int p5), .val (.int va), .val (.int vb), .val (.int vc), .val (.int ve), .val (.int vf), .val (.ref (oo 0)), .val (.int (1 : Int32)), .val (.int (1 : Int32)), .val (.int (2 : Int32)), .val (.int (own_max ve vf))] [(.int (0 : Int32)), (.ref (oo 0))])) rfl (by rw [hml]; rfl) (Steps.refl _) (argsL := [(.int (0 : Int32))]) (rest := []) (lenOf pd_1 rfl) rfl (by show 2 * 0 + _ ≤ _; exact Nat.le_of_eq rfl) (hb hby at_158) (fun _ _ => ⟨rfl, eq152, (by decide : 8 + 0 ≤ _), (by decide : 254 + 0 ≤ _)⟩)
      dsimp only [Pt.U, Pt.locs, Pt.cells, Pt.slots] at X153 l153 y153 z153 st153 hQ153
      subst l153 y153 z153
      obtain ⟨rfl, Nq153, eq153⟩ := hQ153
      have N153 := Fr.app N152 Nq153
      refine EndsQ.go (fun t k => st153.trans k) ?_
      show EndsQ _ _ _ _ _ _ _ (T153.setTop (mkF m 161 #[.val (.int p1), .val (.int p2), .val (.int p3), .val (.int p4), .val (.int p5), .val (.int va), .val (.int vb), .val (.int vc), .val (.int ve), .val (.int vf), .val (.ref (oo 0)), .val (.int (1 : Int32)), .val (.int (1 : Int32)), .val (.int (2 : Int32)), .val (.int (own_max ve vf))] [(.int vc)]))
      refine EndsQ.go (b := T153.setTop (mkF m 169 #[.val (.int p1), .val (.int p2), .val (.int p3), .val (.int p4), .val (.int p5), .val (.int va), .val (.int vb), .val (.int vc), .val (.int ve), .val (.int vf), .val (.ref (oo 0)), .val (.int (1 : Int32)), .val (.int (1 : Int32)), .val (.int (2 : Int32)), .val (.int (own_max ve vf))] [(.int (0 : Int32)), (.ref (oo 0))])) (fun t k => ?_) ?_
      · show Steps p.tables e below (T153.setTop (mkF m 161 #[.val (.int p1), .val (.int p2), .val (.int p3), .val (.int p4), .val (.int p5), .val (.int va), .val (.int vb), .val (.int vc), .val (.int ve), .val (.int vf), .val (.ref (oo 0)), .val (.int (1 : Int32)), .val (.int (1 : Int32)), .val (.int (2 : Int32)), .val (.int (own_max ve vf))] [(.int vc)])) _
        refine XS.iload X153.here hx rfl (hb hby at_161) rfl ?_
        refine XS.icmpNo X153.here hx rfl (hb hby at_163) rfl (teq rfl).2 ?_
        show Steps p.tables e below (T153.setTop (mkF m 166 #[.val (.int p1), .val (.int p2), .val (.int p3), .val (.int p4), .val (.int p5), .val (.int va), .val (.int vb), .val (.int vc), .val (.int ve), .val (.int vf), .val (.ref (oo 0)), .val (.int (1 : Int32)), .val (.int (1 : Int32)), .val (.int (2 : Int32)), .val (.int (own_max ve vf))] [])) _
        refine XS.aload X153.here hx rfl (hb hby at_166) rfl rfl ?_
        show Steps p.tables e below (T153.setTop (mkF m 168 #[.val (.int p1), .val (.int p2), .val (.int p3), .val (.int p4), .val (.int p5), .val (.int va), .val (.int vb), .val (.int vc), .val (.int ve), .val (.int vf), .val (.ref (oo 0)), .val (.int (1 : Int32)), .val (.int (1 : Int32)), .val (.int (2 : Int32)), .val (.int (own_max ve vf))] [(.ref (oo 0))])) _
        refine XS.iconst X153.here hx rfl (hb hby at_168) ?_
        exact k
      obtain ⟨cq154, kq154, qa154, qb154, qc154⟩ := isOf hZ eq153 SE_150
      obtain ⟨_, _, ⟨T154, L154, kk154, nn154⟩, -, X154, ⟨Lc154, hQ154, l154, y154, z154⟩, st154⟩ := X153.virtualBack hx (y := (⟨"com/example/physarum/physarum/Proposals", "count", "(I)I"⟩ : MethodName)) (z := (⟨"com/example/physarum/physarum/Proposals", "count", "(I)I"⟩ : MethodName)) hown (mvT hZ (hw _ (List.mem_of_getElem? (i := 65) rfl))) (mvT hZ (hw _ (List.mem_of_getElem? (i := 51) rfl))) (notFace_of_selects (args := #[]) (mvT hZ (hw _ (List.mem_of_getElem? (i := 53) rfl)))) (mvT hZ (hw _ (List.mem_of_getElem? (i := 53) rfl))) (mvT hZ (hw _ (List.mem_of_getElem? (i := 52) rfl))) (by decide) (backOf (W := 0) (rmCo0 l Z a0 hw [] oo kk vc vb (0 : Int32) (0 : Int32) (0 : Int32) (0 : Int32) (FP.l2d (ve.toInt64)) (FP.l2d (vf.toInt64)) (0 : UInt64) (0 : Int32) (2 : Int32) (0 : Int32) (FP.l2d (if (ve.toInt64) < (vf.toInt64) then (vf.toInt64) else (ve.toInt64))) (FP.l2d (if (ve.toInt64) < (vf.toInt64) then (ve.toInt64) else (vf.toInt64))) (0 : UInt64) (0 : Int32) (0 : Int32) (0 : Int32) (own_L0.set (vc).toNatClampNeg (.int (0 : Int32))) (1 : Int32) (2 : Int32) T150.heap n0 hz150 hne hn ⟨SE_150, SF_candidates_150, SF_proposed_150, SF_confidences_150, SF_starts_150, SF_arranged_150, SF_taken_150, SF_indices_150, SF_cnt_150, SF_sz_150, SA_1_150, SA_2_150, SA_3_150, SA_4_150, SA_5_150, SA_6_150, SA_7_150⟩) hZ (hw _ (List.mem_of_getElem? (i := 54) rfl)) (hw _ (List.mem_of_getElem? (i := 2) rfl)) (by decide) (by decide)) qa154 qc154 (g := (mkF m 169 #[.val (.int p1), .val (.int p2), .val (.int p3), .val (.int p4), .val (.int p5), .val (.int va), .val (.int vb), .val (.int vc), .val (.int ve), .val (.int vf), .val (.ref (oo 0)), .val (.int (1 : Int32)), .val (.int (1 : Int32)), .val (.int (2 : Int32)), .val (.int (own_max ve vf))] [(.int (0 : Int32)), (.ref (oo 0))])) rfl (by rw [hml]; rfl) (Steps.refl _) (argsL := [(.int (0 : Int32))]) (rest := []) (lenOf pd_1 rfl) rfl (by show 2 * 0 + _ ≤ _; exact Nat.le_of_eq rfl) (hb hby at_169) (fun _ _ => ⟨rfl, eq153, (by decide : 8 + 0 ≤ _), (by decide : 254 + 0 ≤ _)⟩)
      dsimp only [Pt.U, Pt.locs, Pt.cells, Pt.slots] at X154 l154 y154 z154 st154 hQ154
      subst l154 y154 z154
      obtain ⟨rfl, Nq154, eq154⟩ := hQ154
      have N154 := Fr.app N153 Nq154
      refine EndsQ.go (fun t k => st154.trans k) ?_
      show EndsQ _ _ _ _ _ _ _ (T154.setTop (mkF m 172 #[.val (.int p1), .val (.int p2), .val (.int p3), .val (.int p4), .val (.int p5), .val (.int va), .val (.int vb), .val (.int vc), .val (.int ve), .val (.int vf), .val (.ref (oo 0)), .val (.int (1 : Int32)), .val (.int (1 : Int32)), .val (.int (2 : Int32)), .val (.int (own_max ve vf))] [(.int ((2 : Int32) - (0 : Int32)))]))
      rw [(by decide : ((2 : Int32) - (0 : Int32)) = (2 : Int32))]
      show EndsQ _ _ _ _ _ _ _ (T154.setTop (mkF m 172 #[.val (.int p1), .val (.int p2), .val (.int p3), .val (.int p4), .val (.int p5), .val (.int va), .val (.int vb), .val (.int vc), .val (.int ve), .val (.int vf), .val (.ref (oo 0)), .val (.int (1 : Int32)), .val (.int (1 : Int32)), .val (.int (2 : Int32)), .val (.int (own_max ve vf))] [(.int (2 : Int32))]))
      refine EndsQ.go (b := T154.setTop (mkF m 180 #[.val (.int p1), .val (.int p2), .val (.int p3), .val (.int p4), .val (.int p5), .val (.int va), .val (.int vb), .val (.int vc), .val (.int ve), .val (.int vf), .val (.ref (oo 0)), .val (.int (1 : Int32)), .val (.int (1 : Int32)), .val (.int (2 : Int32)), .val (.int (own_max ve vf))] [(.int (0 : Int32)), (.ref (oo 0))])) (fun t k => ?_) ?_
      · show Steps p.tables e below (T154.setTop (mkF m 172 #[.val (.int p1), .val (.int p2), .val (.int p3), .val (.int p4), .val (.int p5), .val (.int va), .val (.int vb), .val (.int vc), .val (.int ve), .val (.int vf), .val (.ref (oo 0)), .val (.int (1 : Int32)), .val (.int (1 : Int32)), .val (.int (2 : Int32)), .val (.int (own_max ve vf))] [(.int (2 : Int32))])) _
        refine XS.iload X154.here hx rfl (hb hby at_172) rfl ?_
        refine XS.icmpNo X154.here hx rfl (hb hby at_174) rfl (teq (by decide)).2 ?_
        show Steps p.tables e below (T154.setTop (mkF m 177 #[.val (.int p1), .val (.int p2), .val (.int p3), .val (.int p4), .val (.int p5), .val (.int va), .val (.int vb), .val (.int vc), .val (.int ve), .val (.int vf), .val (.ref (oo 0)), .val (.int (1 : Int32)), .val (.int (1 : Int32)), .val (.int (2 : Int32)), .val (.int (own_max ve vf))] [])) _
        refine XS.aload X154.here hx rfl (hb hby at_177) rfl rfl ?_
        refine XS.iconst X154.here hx rfl (hb hby at_179) ?_
        show Steps p.tables e below (T154.setTop (mkF m 180 #[.val (.int p1), .val (.int p2), .val (.int p3), .val (.int p4), .val (.int p5), .val (.int va), .val (.int vb), .val (.int vc), .val (.int ve), .val (.int vf), .val (.ref (oo 0)), .val (.int (1 : Int32)), .val (.int (1 : Int32)), .val (.int (2 : Int32)), .val (.int (own_max ve vf))] [(.int (0 : Int32)), (.ref (oo 0))])) _
        exact k
      obtain ⟨cq155, kq155, qa155, qb155, qc155⟩ := isOf hZ eq154 SE_150
      obtain ⟨_, _, ⟨T155, L155, kk155, nn155⟩, -, X155, ⟨Lc155, hQ155, l155, y155, z155⟩, st155⟩ := X154.virtualBack hx (y := (⟨"com/example/physarum/physarum/Proposals", "highest", "(I)D"⟩ : MethodName)) (z := (⟨"com/example/physarum/physarum/Proposals", "highest", "(I)D"⟩ : MethodName)) hown (mvT hZ (hw _ (List.mem_of_getElem? (i := 66) rfl))) (mvT hZ (hw _ (List.mem_of_getElem? (i := 67) rfl))) (notFace_of_selects (args := #[]) (mvT hZ (hw _ (List.mem_of_getElem? (i := 69) rfl)))) (mvT hZ (hw _ (List.mem_of_getElem? (i := 69) rfl))) (mvT hZ (hw _ (List.mem_of_getElem? (i := 68) rfl))) (by decide) (backOf (W := 0) (rmHigh1 l Z a0 hw [] oo kk vc vb (0 : Int32) (0 : Int32) (0 : Int32) (0 : Int32) (FP.l2d (ve.toInt64)) (FP.l2d (vf.toInt64)) (0 : UInt64) (0 : Int32) (FP.l2d (if (ve.toInt64) < (vf.toInt64) then (vf.toInt64) else (ve.toInt64))) (FP.l2d (if (ve.toInt64) < (vf.toInt64) then (ve.toInt64) else (vf.toInt64))) (0 : UInt64) (0 : Int32) (0 : Int32) (own_L0.set (vc).toNatClampNeg (.int (0 : Int32))) (1 : Int32) (2 : Int32) T150.heap n0 hz150 hne hn ⟨SE_150, SF_candidates_150, SF_proposed_150, SF_confidences_150, SF_starts_150, SF_arranged_150, SF_taken_150, SF_indices_150, SF_cnt_150, SF_sz_150, SA_1_150, SA_2_150, SA_3_150, SA_4_150, SA_5_150, SA_6_150, SA_7_150⟩ ) hZ (hw _ (List.mem_of_getElem? (i := 70) rfl)) (hw _ (List.mem_of_getElem? (i := 2) rfl)) (by decide) (by decide)) qa155 qc155 (g := (mkF m 180 #[.val (.int p1), .val (.int p2), .val (.int p3), .val (.int p4), .val (.int p5), .val (.int va), .val (.int vb), .val (.int vc), .val (.int ve), .val (.int vf), .val (.ref (oo 0)), .val (.int (1 : Int32)), .val (.int (1 : Int32)), .val (.int (2 : Int32)), .val (.int (own_max ve vf))] [(.int (0 : Int32)), (.ref (oo 0))])) rfl (by rw [hml]; rfl) (Steps.refl _) (argsL := [(.int (0 : Int32))]) (rest := []) (lenOf pd_9 rfl) rfl (by show 2 * 0 + _ ≤ _; exact Nat.le_of_eq rfl) (hb hby at_180) (fun _ _ => ⟨rfl, eq154, (by decide : 8 + 0 ≤ _), (by decide : 254 + 0 ≤ _)⟩)
      dsimp only [Pt.U, Pt.locs, Pt.cells, Pt.slots] at X155 l155 y155 z155 st155 hQ155
      subst l155 y155 z155
      obtain ⟨rfl, Nq155, hz155, HS155⟩ := hQ155
      have N155 := Fr.app N154 Nq155
      obtain ⟨SE_155, SF_candidates_155, SF_proposed_155, SF_confidences_155, SF_starts_155, SF_arranged_155, SF_taken_155, SF_indices_155, SF_cnt_155, SF_sz_155, SA_1_155, SA_2_155, SA_3_155, SA_4_155, SA_5_155, SA_6_155, SA_7_155⟩ := HS155
      refine EndsQ.go (fun t k => st155.trans k) ?_
      show EndsQ _ _ _ _ _ _ _ (T155.setTop (mkF m 183 #[.val (.int p1), .val (.int p2), .val (.int p3), .val (.int p4), .val (.int p5), .val (.int va), .val (.int vb), .val (.int vc), .val (.int ve), .val (.int vf), .val (.ref (oo 0)), .val (.int (1 : Int32)), .val (.int (1 : Int32)), .val (.int (2 : Int32)), .val (.int (own_max ve vf))] [(.double (FP.l2d (if (ve.toInt64) < (vf.toInt64) then (vf.toInt64) else (ve.toInt64))))]))
      refine EndsQ.go (b := T155.setTop (mkF m 195 #[.val (.int p1), .val (.int p2), .val (.int p3), .val (.int p4), .val (.int p5), .val (.int va), .val (.int vb), .val (.int vc), .val (.int ve), .val (.int vf), .val (.ref (oo 0)), .val (.int (1 : Int32)), .val (.int (1 : Int32)), .val (.int (2 : Int32)), .val (.int (own_max ve vf))] [(.int (1 : Int32))])) (fun t k => ?_) ?_
      · show Steps p.tables e below (T155.setTop (mkF m 183 #[.val (.int p1), .val (.int p2), .val (.int p3), .val (.int p4), .val (.int p5), .val (.int va), .val (.int vb), .val (.int vc), .val (.int ve), .val (.int vf), .val (.ref (oo 0)), .val (.int (1 : Int32)), .val (.int (1 : Int32)), .val (.int (2 : Int32)), .val (.int (own_max ve vf))] [(.double (FP.l2d (if (ve.toInt64) < (vf.toInt64) then (vf.toInt64) else (ve.toInt64))))])) _
        refine XS.iload X155.here hx rfl (hb hby at_183) rfl ?_
        refine XS.i2dS X155.here hx rfl (hb hby at_185) rfl (i2d_w _) ?_
        refine XS.dcmpS X155.here hx rfl (hb hby at_186) rfl (dcmpV_w (by have a := own_b53 ve; have b := own_b53 vf; split <;> assumption) (own_b53 _) .l) ?_
        refine XS.ifNo X155.here hx rfl (hb hby at_187) rfl ((if0 _ _).trans (teq ((lw_eq (if (ve.toInt64) < (vf.toInt64) then (vf.toInt64) else (ve.toInt64)) ((own_max ve vf).toInt64)).mpr (own_mx ve vf))).2) ?_
        show Steps p.tables e below (T155.setTop (mkF m 190 #[.val (.int p1), .val (.int p2), .val (.int p3), .val (.int p4), .val (.int p5), .val (.int va), .val (.int vb), .val (.int vc), .val (.int ve), .val (.int vf), .val (.ref (oo 0)), .val (.int (1 : Int32)), .val (.int (1 : Int32)), .val (.int (2 : Int32)), .val (.int (own_max ve vf))] [])) _
        refine XS.iconst X155.here hx rfl (hb hby at_190) ?_
        show Steps p.tables e below (T155.setTop (mkF m 191 #[.val (.int p1), .val (.int p2), .val (.int p3), .val (.int p4), .val (.int p5), .val (.int va), .val (.int vb), .val (.int vc), .val (.int ve), .val (.int vf), .val (.ref (oo 0)), .val (.int (1 : Int32)), .val (.int (1 : Int32)), .val (.int (2 : Int32)), .val (.int (own_max ve vf))] [(.int (1 : Int32))])) _
        refine XS.goto X155.here hx rfl (pc0 := 191) (pc' := 195) rfl (hb hby at_191) (by decide) (by decide) ?_
        exact k
      refine EndsQ.retN X155 hx Bd.notSynchronized (t := .boolean) Bd.returns (by simp) (hb hby at_195) (by decide) (by decide) ?_
      show Q0 Z p1 p2 p3 p4 p5 h0 n0 (some (.int (nar .boolean (1 : Int32)))) T155.heap _
      exact ⟨rfl, N155⟩
    · have hq_eca := eca
      refine EndsQ.go (b := T146.setTop (mkF m 70 #[.val (.int p1), .val (.int p2), .val (.int p3), .val (.int p4), .val (.int p5), .val (.int va), .val (.int vb), .val (.int vc), .val (.int ve), .val (.int vf), .val (.ref (oo 0)), .unset, .unset, .unset, .unset] [(.double (FP.l2d (ve.toInt64))), (.int vc), (.ref (oo 0))])) (fun t k => ?_) ?_
      · show Steps p.tables e below (T146.setTop (mkF m 63 #[.val (.int p1), .val (.int p2), .val (.int p3), .val (.int p4), .val (.int p5), .val (.int va), .val (.int vb), .val (.int vc), .val (.int ve), .val (.int vf), .val (.ref (oo 0)), .unset, .unset, .unset, .unset] [])) _
        refine XS.aload X146.here hx rfl (hb hby at_63) rfl rfl ?_
        refine XS.iload X146.here hx rfl (hb hby at_65) rfl ?_
        refine XS.iload X146.here hx rfl (hb hby at_67) rfl ?_
        show Steps p.tables e below (T146.setTop (mkF m 69 #[.val (.int p1), .val (.int p2), .val (.int p3), .val (.int p4), .val (.int p5), .val (.int va), .val (.int vb), .val (.int vc), .val (.int ve), .val (.int vf), .val (.ref (oo 0)), .unset, .unset, .unset, .unset] [(.int ve), (.int vc), (.ref (oo 0))])) _
        refine XS.i2dS X146.here hx rfl (hb hby at_69) rfl (i2d_w _) ?_
        exact k
      obtain ⟨cq156, kq156, qa156, qb156, qc156⟩ := isOf hZ rfl SE_146
      obtain ⟨_, _, ⟨T156, L156, kk156, nn156⟩, -, X156, ⟨Lc156, hQ156, l156, y156, z156⟩, st156⟩ := X146.virtualBack hx (y := (⟨"com/example/physarum/physarum/Proposals", "add", "(ID)V"⟩ : MethodName)) (z := (⟨"com/example/physarum/physarum/Proposals", "add", "(ID)V"⟩ : MethodName)) hown (mvT hZ (hw _ (List.mem_of_getElem? (i := 30) rfl))) (mvT hZ (hw _ (List.mem_of_getElem? (i := 31) rfl))) (notFace_of_selects (args := #[]) (mvT hZ (hw _ (List.mem_of_getElem? (i := 33) rfl)))) (mvT hZ (hw _ (List.mem_of_getElem? (i := 33) rfl))) (mvT hZ (hw _ (List.mem_of_getElem? (i := 32) rfl))) (by decide) (backOf (W := 0) (rmAddN0 l Z a0 hw [] vc (FP.l2d (ve.toInt64)) oo kk va vb (0 : Int32) (0 : Int32) (1 : Int32) (0 : Int32) (4636737291354636288 : UInt64) (4641240890982006784 : UInt64) (0 : UInt64) (1 : Int32) (1 : Int32) (0 : Int32) (0 : UInt64) (0 : UInt64) (0 : UInt64) (0 : Int32) (0 : Int32) (0 : Int32) own_L0 T146.heap n0 hz146 hne hn ⟨SE_146, SF_candidates_146, SF_proposed_146, SF_confidences_146, SF_starts_146, SF_arranged_146, SF_taken_146, SF_indices_146, SF_cnt_146, SF_sz_146, SA_1_146, SA_2_146, SA_3_146, SA_4_146, SA_5_146, SA_6_146, fx147⟩ (by first | exact own_len0 | (simp only [List.length_set]; exact own_len0)) hc_ (own_g0 vc hc_)) hZ (hw _ (List.mem_of_getElem? (i := 34) rfl)) (hw _ (List.mem_of_getElem? (i := 2) rfl)) (by decide) (by decide)) qa156 qc156 (g := (mkF m 70 #[.val (.int p1), .val (.int p2), .val (.int p3), .val (.int p4), .val (.int p5), .val (.int va), .val (.int vb), .val (.int vc), .val (.int ve), .val (.int vf), .val (.ref (oo 0)), .unset, .unset, .unset, .unset] [(.double (FP.l2d (ve.toInt64))), (.int vc), (.ref (oo 0))])) rfl (by rw [hml]; rfl) (Steps.refl _) (argsL := [(.int vc), (.double (FP.l2d (ve.toInt64)))]) (rest := []) (lenOf pd_5 rfl) rfl (by show 2 * 0 + _ ≤ _; exact Nat.le_of_eq rfl) (hb hby at_70) (fun _ _ => ⟨rfl, rfl, (by decide : 8 + 0 ≤ _), (by decide : 254 + 0 ≤ _)⟩)
      dsimp only [Pt.U, Pt.locs, Pt.cells, Pt.slots] at X156 l156 y156 z156 st156 hQ156
      subst l156 y156 z156
      obtain ⟨rfl, Nq156, hz156, HS156⟩ := hQ156
      have N156 := Fr.app N146 Nq156
      obtain ⟨SE_156, SF_candidates_156, SF_proposed_156, SF_confidences_156, SF_starts_156, SF_arranged_156, SF_taken_156, SF_indices_156, SF_cnt_156, SF_sz_156, SA_1_156, SA_2_156, SA_3_156, SA_4_156, SA_5_156, SA_6_156, SA_7_156⟩ := HS156
      refine EndsQ.go (fun t k => st156.trans k) ?_
      show EndsQ _ _ _ _ _ _ _ (T156.setTop (mkF m 73 #[.val (.int p1), .val (.int p2), .val (.int p3), .val (.int p4), .val (.int p5), .val (.int va), .val (.int vb), .val (.int vc), .val (.int ve), .val (.int vf), .val (.ref (oo 0)), .unset, .unset, .unset, .unset] []))
      refine EndsQ.go (b := T156.setTop (mkF m 80 #[.val (.int p1), .val (.int p2), .val (.int p3), .val (.int p4), .val (.int p5), .val (.int va), .val (.int vb), .val (.int vc), .val (.int ve), .val (.int vf), .val (.ref (oo 0)), .unset, .unset, .unset, .unset] [(.double (FP.l2d (vf.toInt64))), (.int va), (.ref (oo 0))])) (fun t k => ?_) ?_
      · show Steps p.tables e below (T156.setTop (mkF m 73 #[.val (.int p1), .val (.int p2), .val (.int p3), .val (.int p4), .val (.int p5), .val (.int va), .val (.int vb), .val (.int vc), .val (.int ve), .val (.int vf), .val (.ref (oo 0)), .unset, .unset, .unset, .unset] [])) _
        refine XS.aload X156.here hx rfl (hb hby at_73) rfl rfl ?_
        refine XS.iload X156.here hx rfl (hb hby at_75) rfl ?_
        refine XS.iload X156.here hx rfl (hb hby at_77) rfl ?_
        show Steps p.tables e below (T156.setTop (mkF m 79 #[.val (.int p1), .val (.int p2), .val (.int p3), .val (.int p4), .val (.int p5), .val (.int va), .val (.int vb), .val (.int vc), .val (.int ve), .val (.int vf), .val (.ref (oo 0)), .unset, .unset, .unset, .unset] [(.int vf), (.int va), (.ref (oo 0))])) _
        refine XS.i2dS X156.here hx rfl (hb hby at_79) rfl (i2d_w _) ?_
        exact k
      obtain ⟨cq157, kq157, qa157, qb157, qc157⟩ := isOf hZ rfl SE_156
      obtain ⟨_, _, ⟨T157, L157, kk157, nn157⟩, -, X157, ⟨Lc157, hQ157, l157, y157, z157⟩, st157⟩ := X156.virtualBack hx (y := (⟨"com/example/physarum/physarum/Proposals", "add", "(ID)V"⟩ : MethodName)) (z := (⟨"com/example/physarum/physarum/Proposals", "add", "(ID)V"⟩ : MethodName)) hown (mvT hZ (hw _ (List.mem_of_getElem? (i := 30) rfl))) (mvT hZ (hw _ (List.mem_of_getElem? (i := 31) rfl))) (notFace_of_selects (args := #[]) (mvT hZ (hw _ (List.mem_of_getElem? (i := 33) rfl)))) (mvT hZ (hw _ (List.mem_of_getElem? (i := 33) rfl))) (mvT hZ (hw _ (List.mem_of_getElem? (i := 32) rfl))) (by decide) (backOf (W := 0) (rmAddN1 l Z a0 hw [] va (FP.l2d (vf.toInt64)) oo kk vc vb (0 : Int32) (0 : Int32) (1 : Int32) (0 : Int32) (FP.l2d (ve.toInt64)) (4641240890982006784 : UInt64) (0 : UInt64) (1 : Int32) (0 : Int32) (0 : UInt64) (0 : UInt64) (0 : UInt64) (0 : Int32) (0 : Int32) (0 : Int32) (own_L0.set (vc).toNatClampNeg (.int (0 : Int32))) T156.heap n0 hz156 hne hn ⟨SE_156, SF_candidates_156, SF_proposed_156, SF_confidences_156, SF_starts_156, SF_arranged_156, SF_taken_156, SF_indices_156, SF_cnt_156, SF_sz_156, SA_1_156, SA_2_156, SA_3_156, SA_4_156, SA_5_156, SA_6_156, SA_7_156⟩ (by first | exact own_len0 | (simp only [List.length_set]; exact own_len0)) ha (own_g1 vc va hc_ ha eca)) hZ (hw _ (List.mem_of_getElem? (i := 34) rfl)) (hw _ (List.mem_of_getElem? (i := 2) rfl)) (by decide) (by decide)) qa157 qc157 (g := (mkF m 80 #[.val (.int p1), .val (.int p2), .val (.int p3), .val (.int p4), .val (.int p5), .val (.int va), .val (.int vb), .val (.int vc), .val (.int ve), .val (.int vf), .val (.ref (oo 0)), .unset, .unset, .unset, .unset] [(.double (FP.l2d (vf.toInt64))), (.int va), (.ref (oo 0))])) rfl (by rw [hml]; rfl) (Steps.refl _) (argsL := [(.int va), (.double (FP.l2d (vf.toInt64)))]) (rest := []) (lenOf pd_5 rfl) rfl (by show 2 * 0 + _ ≤ _; exact Nat.le_of_eq rfl) (hb hby at_80) (fun _ _ => ⟨rfl, rfl, (by decide : 8 + 0 ≤ _), (by decide : 254 + 0 ≤ _)⟩)
      dsimp only [Pt.U, Pt.locs, Pt.cells, Pt.slots] at X157 l157 y157 z157 st157 hQ157
      subst l157 y157 z157
      obtain ⟨rfl, Nq157, hz157, HS157⟩ := hQ157
      have N157 := Fr.app N156 Nq157
      obtain ⟨SE_157, SF_candidates_157, SF_proposed_157, SF_confidences_157, SF_starts_157, SF_arranged_157, SF_taken_157, SF_indices_157, SF_cnt_157, SF_sz_157, SA_1_157, SA_2_157, SA_3_157, SA_4_157, SA_5_157, SA_6_157, SA_7_157⟩ := HS157
      refine EndsQ.go (fun t k => st157.trans k) ?_
      show EndsQ _ _ _ _ _ _ _ (T157.setTop (mkF m 83 #[.val (.int p1), .val (.int p2), .val (.int p3), .val (.int p4), .val (.int p5), .val (.int va), .val (.int vb), .val (.int vc), .val (.int ve), .val (.int vf), .val (.ref (oo 0)), .unset, .unset, .unset, .unset] []))
      refine EndsQ.go (b := T157.setTop (mkF m 85 #[.val (.int p1), .val (.int p2), .val (.int p3), .val (.int p4), .val (.int p5), .val (.int va), .val (.int vb), .val (.int vc), .val (.int ve), .val (.int vf), .val (.ref (oo 0)), .unset, .unset, .unset, .unset] [(.ref (oo 0))])) (fun t k => ?_) ?_
      · show Steps p.tables e below (T157.setTop (mkF m 83 #[.val (.int p1), .val (.int p2), .val (.int p3), .val (.int p4), .val (.int p5), .val (.int va), .val (.int vb), .val (.int vc), .val (.int ve), .val (.int vf), .val (.ref (oo 0)), .unset, .unset, .unset, .unset] [])) _
        refine XS.aload X157.here hx rfl (hb hby at_83) rfl rfl ?_
        exact k
      obtain ⟨cq158, kq158, qa158, qb158, qc158⟩ := isOf hZ rfl SE_157
      obtain ⟨_, _, ⟨T158, L158, kk158, nn158⟩, -, X158, ⟨Lc158, hQ158, l158, y158, z158⟩, st158⟩ := X157.virtualBack hx (y := (⟨"com/example/physarum/physarum/Proposals", "arrange", "()V"⟩ : MethodName)) (z := (⟨"com/example/physarum/physarum/Proposals", "arrange", "()V"⟩ : MethodName)) hown (mvT hZ (hw _ (List.mem_of_getElem? (i := 45) rfl))) (mvT hZ (hw _ (List.mem_of_getElem? (i := 46) rfl))) (notFace_of_selects (args := #[]) (mvT hZ (hw _ (List.mem_of_getElem? (i := 48) rfl)))) (mvT hZ (hw _ (List.mem_of_getElem? (i := 48) rfl))) (mvT hZ (hw _ (List.mem_of_getElem? (i := 47) rfl))) (by decide) (backOf (W := 0) (rmArr2 l Z a0 hw [] oo kk vc va (0 : Int32) (0 : Int32) (FP.l2d (ve.toInt64)) (FP.l2d (vf.toInt64)) (0 : UInt64) (0 : Int32) (0 : UInt64) (0 : UInt64) (0 : UInt64) (0 : Int32) (0 : Int32) (0 : Int32) ((own_L0.set (vc).toNatClampNeg (.int (0 : Int32))).set (va).toNatClampNeg (.int (1 : Int32))) T157.heap n0 hz157 hne hn ⟨SE_157, SF_candidates_157, SF_proposed_157, SF_confidences_157, SF_starts_157, SF_arranged_157, SF_taken_157, SF_indices_157, SF_cnt_157, SF_sz_157, SA_1_157, SA_2_157, SA_3_157, SA_4_157, SA_5_157, SA_6_157, SA_7_157⟩ ) hZ (hw _ (List.mem_of_getElem? (i := 49) rfl)) (hw _ (List.mem_of_getElem? (i := 2) rfl)) (by decide) (by decide)) qa158 qc158 (g := (mkF m 85 #[.val (.int p1), .val (.int p2), .val (.int p3), .val (.int p4), .val (.int p5), .val (.int va), .val (.int vb), .val (.int vc), .val (.int ve), .val (.int vf), .val (.ref (oo 0)), .unset, .unset, .unset, .unset] [(.ref (oo 0))])) rfl (by rw [hml]; rfl) (Steps.refl _) (argsL := []) (rest := []) (lenOf pd_6 rfl) rfl (by show 2 * 0 + _ ≤ _; exact Nat.le_of_eq rfl) (hb hby at_85) (fun _ _ => ⟨rfl, rfl, (by decide : 8 + 0 ≤ _), (by decide : 254 + 0 ≤ _)⟩)
      dsimp only [Pt.U, Pt.locs, Pt.cells, Pt.slots] at X158 l158 y158 z158 st158 hQ158
      subst l158 y158 z158
      obtain ⟨rfl, Nq158, hz158, HS158⟩ := hQ158
      have N158 := Fr.app N157 Nq158
      obtain ⟨SE_158, SF_candidates_158, SF_proposed_158, SF_confidences_158, SF_starts_158, SF_arranged_158, SF_taken_158, SF_indices_158, SF_cnt_158, SF_sz_158, SA_1_158, SA_2_158, SA_3_158, SA_4_158, SA_5_158, SA_6_158, SA_7_158⟩ := HS158
      refine EndsQ.go (fun t k => st158.trans k) ?_
      show EndsQ _ _ _ _ _ _ _ (T158.setTop (mkF m 88 #[.val (.int p1), .val (.int p2), .val (.int p3), .val (.int p4), .val (.int p5), .val (.int va), .val (.int vb), .val (.int vc), .val (.int ve), .val (.int vf), .val (.ref (oo 0)), .unset, .unset, .unset, .unset] []))
      refine EndsQ.go (b := T158.setTop (mkF m 147 #[.val (.int p1), .val (.int p2), .val (.int p3), .val (.int p4), .val (.int p5), .val (.int va), .val (.int vb), .val (.int vc), .val (.int ve), .val (.int vf), .val (.ref (oo 0)), .val (.int (0 : Int32)), .val (.int (2 : Int32)), .val (.int (1 : Int32)), .val (.int ve)] [(.ref (oo 0))])) (fun t k => ?_) ?_
      · show Steps p.tables e below (T158.setTop (mkF m 88 #[.val (.int p1), .val (.int p2), .val (.int p3), .val (.int p4), .val (.int p5), .val (.int va), .val (.int vb), .val (.int vc), .val (.int ve), .val (.int vf), .val (.ref (oo 0)), .unset, .unset, .unset, .unset] [])) _
        refine XS.iload X158.here hx rfl (hb hby at_88) rfl ?_
        refine XS.iload X158.here hx rfl (hb hby at_90) rfl ?_
        show Steps p.tables e below (T158.setTop (mkF m 92 #[.val (.int p1), .val (.int p2), .val (.int p3), .val (.int p4), .val (.int p5), .val (.int va), .val (.int vb), .val (.int vc), .val (.int ve), .val (.int vf), .val (.ref (oo 0)), .unset, .unset, .unset, .unset] [(.int va), (.int vc)])) _
        refine XS.icmpYes X158.here hx rfl (pc0 := 92) (pc' := 99) rfl (hb hby at_92) rfl (feq eca).2 (by decide) (by decide) ?_
        show Steps p.tables e below (T158.setTop (mkF m 99 #[.val (.int p1), .val (.int p2), .val (.int p3), .val (.int p4), .val (.int p5), .val (.int va), .val (.int vb), .val (.int vc), .val (.int ve), .val (.int vf), .val (.ref (oo 0)), .unset, .unset, .unset, .unset] [])) _
        refine XS.iconst X158.here hx rfl (hb hby at_99) ?_
        refine XS.istore X158.here hx rfl (hb hby at_100) rfl (l' := #[.val (.int p1), .val (.int p2), .val (.int p3), .val (.int p4), .val (.int p5), .val (.int va), .val (.int vb), .val (.int vc), .val (.int ve), .val (.int vf), .val (.ref (oo 0)), .val (.int (0 : Int32)), .unset, .unset, .unset]) rfl ?_
        refine XS.iload X158.here hx rfl (hb hby at_102) rfl ?_
        refine XS.ifYes X158.here hx rfl (pc0 := 104) (pc' := 111) rfl (hb hby at_104) rfl ((if0 _ _).trans (teq (by decide)).1) (by decide) (by decide) ?_
        show Steps p.tables e below (T158.setTop (mkF m 111 #[.val (.int p1), .val (.int p2), .val (.int p3), .val (.int p4), .val (.int p5), .val (.int va), .val (.int vb), .val (.int vc), .val (.int ve), .val (.int vf), .val (.ref (oo 0)), .val (.int (0 : Int32)), .unset, .unset, .unset] [])) _
        refine XS.iconst X158.here hx rfl (hb hby at_111) ?_
        show Steps p.tables e below (T158.setTop (mkF m 112 #[.val (.int p1), .val (.int p2), .val (.int p3), .val (.int p4), .val (.int p5), .val (.int va), .val (.int vb), .val (.int vc), .val (.int ve), .val (.int vf), .val (.ref (oo 0)), .val (.int (0 : Int32)), .unset, .unset, .unset] [(.int (2 : Int32))])) _
        refine XS.istore X158.here hx rfl (hb hby at_112) rfl (l' := #[.val (.int p1), .val (.int p2), .val (.int p3), .val (.int p4), .val (.int p5), .val (.int va), .val (.int vb), .val (.int vc), .val (.int ve), .val (.int vf), .val (.ref (oo 0)), .val (.int (0 : Int32)), .val (.int (2 : Int32)), .unset, .unset]) rfl ?_
        refine XS.iload X158.here hx rfl (hb hby at_114) rfl ?_
        refine XS.ifYes X158.here hx rfl (pc0 := 116) (pc' := 123) rfl (hb hby at_116) rfl ((if0 _ _).trans (teq (by decide)).1) (by decide) (by decide) ?_
        show Steps p.tables e below (T158.setTop (mkF m 123 #[.val (.int p1), .val (.int p2), .val (.int p3), .val (.int p4), .val (.int p5), .val (.int va), .val (.int vb), .val (.int vc), .val (.int ve), .val (.int vf), .val (.ref (oo 0)), .val (.int (0 : Int32)), .val (.int (2 : Int32)), .unset, .unset] [])) _
        refine XS.iconst X158.here hx rfl (hb hby at_123) ?_
        refine XS.istore X158.here hx rfl (hb hby at_124) rfl (l' := #[.val (.int p1), .val (.int p2), .val (.int p3), .val (.int p4), .val (.int p5), .val (.int va), .val (.int vb), .val (.int vc), .val (.int ve), .val (.int vf), .val (.ref (oo 0)), .val (.int (0 : Int32)), .val (.int (2 : Int32)), .val (.int (1 : Int32)), .unset]) rfl ?_
        show Steps p.tables e below (T158.setTop (mkF m 126 #[.val (.int p1), .val (.int p2), .val (.int p3), .val (.int p4), .val (.int p5), .val (.int va), .val (.int vb), .val (.int vc), .val (.int ve), .val (.int vf), .val (.ref (oo 0)), .val (.int (0 : Int32)), .val (.int (2 : Int32)), .val (.int (1 : Int32)), .unset] [])) _
        refine XS.iload X158.here hx rfl (hb hby at_126) rfl ?_
        refine XS.ifYes X158.here hx rfl (pc0 := 128) (pc' := 141) rfl (hb hby at_128) rfl ((if0 _ _).trans (teq (by decide)).1) (by decide) (by decide) ?_
        show Steps p.tables e below (T158.setTop (mkF m 141 #[.val (.int p1), .val (.int p2), .val (.int p3), .val (.int p4), .val (.int p5), .val (.int va), .val (.int vb), .val (.int vc), .val (.int ve), .val (.int vf), .val (.ref (oo 0)), .val (.int (0 : Int32)), .val (.int (2 : Int32)), .val (.int (1 : Int32)), .unset] [])) _
        refine XS.iload X158.here hx rfl (hb hby at_141) rfl ?_
        refine XS.istore X158.here hx rfl (hb hby at_143) rfl (l' := #[.val (.int p1), .val (.int p2), .val (.int p3), .val (.int p4), .val (.int p5), .val (.int va), .val (.int vb), .val (.int vc), .val (.int ve), .val (.int vf), .val (.ref (oo 0)), .val (.int (0 : Int32)), .val (.int (2 : Int32)), .val (.int (1 : Int32)), .val (.int ve)]) rfl ?_
        refine XS.aload X158.here hx rfl (hb hby at_145) rfl rfl ?_
        show Steps p.tables e below (T158.setTop (mkF m 147 #[.val (.int p1), .val (.int p2), .val (.int p3), .val (.int p4), .val (.int p5), .val (.int va), .val (.int vb), .val (.int vc), .val (.int ve), .val (.int vf), .val (.ref (oo 0)), .val (.int (0 : Int32)), .val (.int (2 : Int32)), .val (.int (1 : Int32)), .val (.int ve)] [(.ref (oo 0))])) _
        exact k
      obtain ⟨cq159, kq159, qa159, qb159, qc159⟩ := isOf hZ rfl SE_158
      obtain ⟨_, _, ⟨T159, L159, kk159, nn159⟩, -, X159, ⟨Lc159, hQ159, l159, y159, z159⟩, st159⟩ := X158.virtualBack hx (y := (⟨"com/example/physarum/physarum/Proposals", "size", "()I"⟩ : MethodName)) (z := (⟨"com/example/physarum/physarum/Proposals", "size", "()I"⟩ : MethodName)) hown (mvT hZ (hw _ (List.mem_of_getElem? (i := 55) rfl))) (mvT hZ (hw _ (List.mem_of_getElem? (i := 56) rfl))) (notFace_of_selects (args := #[]) (mvT hZ (hw _ (List.mem_of_getElem? (i := 58) rfl)))) (mvT hZ (hw _ (List.mem_of_getElem? (i := 58) rfl))) (mvT hZ (hw _ (List.mem_of_getElem? (i := 57) rfl))) (by decide) (backOf (W := 0) (rmSz l Z a0 hw [] oo kk vc va (0 : Int32) (0 : Int32) (1 : Int32) (0 : Int32) (FP.l2d (ve.toInt64)) (FP.l2d (vf.toInt64)) (0 : UInt64) (0 : Int32) (1 : Int32) (2 : Int32) (FP.l2d (ve.toInt64)) (FP.l2d (vf.toInt64)) (0 : UInt64) (0 : Int32) (0 : Int32) (0 : Int32) ((own_L0.set (vc).toNatClampNeg (.int (0 : Int32))).set (va).toNatClampNeg (.int (1 : Int32))) (2 : Int32) (2 : Int32) T158.heap n0 hz158 hne hn ⟨SE_158, SF_candidates_158, SF_proposed_158, SF_confidences_158, SF_starts_158, SF_arranged_158, SF_taken_158, SF_indices_158, SF_cnt_158, SF_sz_158, SA_1_158, SA_2_158, SA_3_158, SA_4_158, SA_5_158, SA_6_158, SA_7_158⟩) hZ (hw _ (List.mem_of_getElem? (i := 59) rfl)) (hw _ (List.mem_of_getElem? (i := 2) rfl)) (by decide) (by decide)) qa159 qc159 (g := (mkF m 147 #[.val (.int p1), .val (.int p2), .val (.int p3), .val (.int p4), .val (.int p5), .val (.int va), .val (.int vb), .val (.int vc), .val (.int ve), .val (.int vf), .val (.ref (oo 0)), .val (.int (0 : Int32)), .val (.int (2 : Int32)), .val (.int (1 : Int32)), .val (.int ve)] [(.ref (oo 0))])) rfl (by rw [hml]; rfl) (Steps.refl _) (argsL := []) (rest := []) (lenOf pd_8 rfl) rfl (by show 2 * 0 + _ ≤ _; exact Nat.le_of_eq rfl) (hb hby at_147) (fun _ _ => ⟨rfl, rfl, (by decide : 8 + 0 ≤ _), (by decide : 254 + 0 ≤ _)⟩)
      dsimp only [Pt.U, Pt.locs, Pt.cells, Pt.slots] at X159 l159 y159 z159 st159 hQ159
      subst l159 y159 z159
      obtain ⟨rfl, Nq159, eq159⟩ := hQ159
      have N159 := Fr.app N158 Nq159
      refine EndsQ.go (fun t k => st159.trans k) ?_
      show EndsQ _ _ _ _ _ _ _ (T159.setTop (mkF m 150 #[.val (.int p1), .val (.int p2), .val (.int p3), .val (.int p4), .val (.int p5), .val (.int va), .val (.int vb), .val (.int vc), .val (.int ve), .val (.int vf), .val (.ref (oo 0)), .val (.int (0 : Int32)), .val (.int (2 : Int32)), .val (.int (1 : Int32)), .val (.int ve)] [(.int (2 : Int32))]))
      refine EndsQ.go (b := T159.setTop (mkF m 158 #[.val (.int p1), .val (.int p2), .val (.int p3), .val (.int p4), .val (.int p5), .val (.int va), .val (.int vb), .val (.int vc), .val (.int ve), .val (.int vf), .val (.ref (oo 0)), .val (.int (0 : Int32)), .val (.int (2 : Int32)), .val (.int (1 : Int32)), .val (.int ve)] [(.int (0 : Int32)), (.ref (oo 0))])) (fun t k => ?_) ?_
      · show Steps p.tables e below (T159.setTop (mkF m 150 #[.val (.int p1), .val (.int p2), .val (.int p3), .val (.int p4), .val (.int p5), .val (.int va), .val (.int vb), .val (.int vc), .val (.int ve), .val (.int vf), .val (.ref (oo 0)), .val (.int (0 : Int32)), .val (.int (2 : Int32)), .val (.int (1 : Int32)), .val (.int ve)] [(.int (2 : Int32))])) _
        refine XS.iload X159.here hx rfl (hb hby at_150) rfl ?_
        refine XS.icmpNo X159.here hx rfl (hb hby at_152) rfl (teq (by decide)).2 ?_
        show Steps p.tables e below (T159.setTop (mkF m 155 #[.val (.int p1), .val (.int p2), .val (.int p3), .val (.int p4), .val (.int p5), .val (.int va), .val (.int vb), .val (.int vc), .val (.int ve), .val (.int vf), .val (.ref (oo 0)), .val (.int (0 : Int32)), .val (.int (2 : Int32)), .val (.int (1 : Int32)), .val (.int ve)] [])) _
        refine XS.aload X159.here hx rfl (hb hby at_155) rfl rfl ?_
        refine XS.iconst X159.here hx rfl (hb hby at_157) ?_
        exact k
      obtain ⟨cq160, kq160, qa160, qb160, qc160⟩ := isOf hZ eq159 SE_158
      obtain ⟨_, _, ⟨T160, L160, kk160, nn160⟩, -, X160, ⟨Lc160, hQ160, l160, y160, z160⟩, st160⟩ := X159.virtualBack hx (y := (⟨"com/example/physarum/physarum/Proposals", "candidate", "(I)I"⟩ : MethodName)) (z := (⟨"com/example/physarum/physarum/Proposals", "candidate", "(I)I"⟩ : MethodName)) hown (mvT hZ (hw _ (List.mem_of_getElem? (i := 60) rfl))) (mvT hZ (hw _ (List.mem_of_getElem? (i := 61) rfl))) (notFace_of_selects (args := #[]) (mvT hZ (hw _ (List.mem_of_getElem? (i := 63) rfl)))) (mvT hZ (hw _ (List.mem_of_getElem? (i := 63) rfl))) (mvT hZ (hw _ (List.mem_of_getElem? (i := 62) rfl))) (by decide) (backOf (W := 0) (rmCa l Z a0 hw [] oo kk vc va (0 : Int32) (0 : Int32) (1 : Int32) (0 : Int32) (FP.l2d (ve.toInt64)) (FP.l2d (vf.toInt64)) (0 : UInt64) (0 : Int32) (1 : Int32) (2 : Int32) (FP.l2d (ve.toInt64)) (FP.l2d (vf.toInt64)) (0 : UInt64) (0 : Int32) (0 : Int32) (0 : Int32) ((own_L0.set (vc).toNatClampNeg (.int (0 : Int32))).set (va).toNatClampNeg (.int (1 : Int32))) (2 : Int32) (2 : Int32) T158.heap n0 hz158 hne hn ⟨SE_158, SF_candidates_158, SF_proposed_158, SF_confidences_158, SF_starts_158, SF_arranged_158, SF_taken_158, SF_indices_158, SF_cnt_158, SF_sz_158, SA_1_158, SA_2_158, SA_3_158, SA_4_158, SA_5_158, SA_6_158, SA_7_158⟩) hZ (hw _ (List.mem_of_getElem? (i := 64) rfl)) (hw _ (List.mem_of_getElem? (i := 2) rfl)) (by decide) (by decide)) qa160 qc160 (g := (mkF m 158 #[.val (.int p1), .val (.int p2), .val (.int p3), .val (.int p4), .val (.int p5), .val (.int va), .val (.int vb), .val (.int vc), .val (.int ve), .val (.int vf), .val (.ref (oo 0)), .val (.int (0 : Int32)), .val (.int (2 : Int32)), .val (.int (1 : Int32)), .val (.int ve)] [(.int (0 : Int32)), (.ref (oo 0))])) rfl (by rw [hml]; rfl) (Steps.refl _) (argsL := [(.int (0 : Int32))]) (rest := []) (lenOf pd_1 rfl) rfl (by show 2 * 0 + _ ≤ _; exact Nat.le_of_eq rfl) (hb hby at_158) (fun _ _ => ⟨rfl, eq159, (by decide : 8 + 0 ≤ _), (by decide : 254 + 0 ≤ _)⟩)
      dsimp only [Pt.U, Pt.locs, Pt.cells, Pt.slots] at X160 l160 y160 z160 st160 hQ160
      subst l160 y160 z160
      obtain ⟨rfl, Nq160, eq160⟩ := hQ160
      have N160 := Fr.app N159 Nq160
      refine EndsQ.go (fun t k => st160.trans k) ?_
      show EndsQ _ _ _ _ _ _ _ (T160.setTop (mkF m 161 #[.val (.int p1), .val (.int p2), .val (.int p3), .val (.int p4), .val (.int p5), .val (.int va), .val (.int vb), .val (.int vc), .val (.int ve), .val (.int vf), .val (.ref (oo 0)), .val (.int (0 : Int32)), .val (.int (2 : Int32)), .val (.int (1 : Int32)), .val (.int ve)] [(.int vc)]))
      refine EndsQ.go (b := T160.setTop (mkF m 169 #[.val (.int p1), .val (.int p2), .val (.int p3), .val (.int p4), .val (.int p5), .val (.int va), .val (.int vb), .val (.int vc), .val (.int ve), .val (.int vf), .val (.ref (oo 0)), .val (.int (0 : Int32)), .val (.int (2 : Int32)), .val (.int (1 : Int32)), .val (.int ve)] [(.int (0 : Int32)), (.ref (oo 0))])) (fun t k => ?_) ?_
      · show Steps p.tables e below (T160.setTop (mkF m 161 #[.val (.int p1), .val (.int p2), .val (.int p3), .val (.int p4), .val (.int p5), .val (.int va), .val (.int vb), .val (.int vc), .val (.int ve), .val (.int vf), .val (.ref (oo 0)), .val (.int (0 : Int32)), .val (.int (2 : Int32)), .val (.int (1 : Int32)), .val (.int ve)] [(.int vc)])) _
        refine XS.iload X160.here hx rfl (hb hby at_161) rfl ?_
        show Steps p.tables e below (T160.setTop (mkF m 163 #[.val (.int p1), .val (.int p2), .val (.int p3), .val (.int p4), .val (.int p5), .val (.int va), .val (.int vb), .val (.int vc), .val (.int ve), .val (.int vf), .val (.ref (oo 0)), .val (.int (0 : Int32)), .val (.int (2 : Int32)), .val (.int (1 : Int32)), .val (.int ve)] [(.int vc), (.int vc)])) _
        refine XS.icmpNo X160.here hx rfl (hb hby at_163) rfl (teq rfl).2 ?_
        show Steps p.tables e below (T160.setTop (mkF m 166 #[.val (.int p1), .val (.int p2), .val (.int p3), .val (.int p4), .val (.int p5), .val (.int va), .val (.int vb), .val (.int vc), .val (.int ve), .val (.int vf), .val (.ref (oo 0)), .val (.int (0 : Int32)), .val (.int (2 : Int32)), .val (.int (1 : Int32)), .val (.int ve)] [])) _
        refine XS.aload X160.here hx rfl (hb hby at_166) rfl rfl ?_
        refine XS.iconst X160.here hx rfl (hb hby at_168) ?_
        exact k
      obtain ⟨cq161, kq161, qa161, qb161, qc161⟩ := isOf hZ eq160 SE_158
      obtain ⟨_, _, ⟨T161, L161, kk161, nn161⟩, -, X161, ⟨Lc161, hQ161, l161, y161, z161⟩, st161⟩ := X160.virtualBack hx (y := (⟨"com/example/physarum/physarum/Proposals", "count", "(I)I"⟩ : MethodName)) (z := (⟨"com/example/physarum/physarum/Proposals", "count", "(I)I"⟩ : MethodName)) hown (mvT hZ (hw _ (List.mem_of_getElem? (i := 65) rfl))) (mvT hZ (hw _ (List.mem_of_getElem? (i := 51) rfl))) (notFace_of_selects (args := #[]) (mvT hZ (hw _ (List.mem_of_getElem? (i := 53) rfl)))) (mvT hZ (hw _ (List.mem_of_getElem? (i := 53) rfl))) (mvT hZ (hw _ (List.mem_of_getElem? (i := 52) rfl))) (by decide) (backOf (W := 0) (rmCo0 l Z a0 hw [] oo kk vc va (0 : Int32) (0 : Int32) (1 : Int32) (0 : Int32) (FP.l2d (ve.toInt64)) (FP.l2d (vf.toInt64)) (0 : UInt64) (0 : Int32) (1 : Int32) (2 : Int32) (FP.l2d (ve.toInt64)) (FP.l2d (vf.toInt64)) (0 : UInt64) (0 : Int32) (0 : Int32) (0 : Int32) ((own_L0.set (vc).toNatClampNeg (.int (0 : Int32))).set (va).toNatClampNeg (.int (1 : Int32))) (2 : Int32) (2 : Int32) T158.heap n0 hz158 hne hn ⟨SE_158, SF_candidates_158, SF_proposed_158, SF_confidences_158, SF_starts_158, SF_arranged_158, SF_taken_158, SF_indices_158, SF_cnt_158, SF_sz_158, SA_1_158, SA_2_158, SA_3_158, SA_4_158, SA_5_158, SA_6_158, SA_7_158⟩) hZ (hw _ (List.mem_of_getElem? (i := 54) rfl)) (hw _ (List.mem_of_getElem? (i := 2) rfl)) (by decide) (by decide)) qa161 qc161 (g := (mkF m 169 #[.val (.int p1), .val (.int p2), .val (.int p3), .val (.int p4), .val (.int p5), .val (.int va), .val (.int vb), .val (.int vc), .val (.int ve), .val (.int vf), .val (.ref (oo 0)), .val (.int (0 : Int32)), .val (.int (2 : Int32)), .val (.int (1 : Int32)), .val (.int ve)] [(.int (0 : Int32)), (.ref (oo 0))])) rfl (by rw [hml]; rfl) (Steps.refl _) (argsL := [(.int (0 : Int32))]) (rest := []) (lenOf pd_1 rfl) rfl (by show 2 * 0 + _ ≤ _; exact Nat.le_of_eq rfl) (hb hby at_169) (fun _ _ => ⟨rfl, eq160, (by decide : 8 + 0 ≤ _), (by decide : 254 + 0 ≤ _)⟩)
      dsimp only [Pt.U, Pt.locs, Pt.cells, Pt.slots] at X161 l161 y161 z161 st161 hQ161
      subst l161 y161 z161
      obtain ⟨rfl, Nq161, eq161⟩ := hQ161
      have N161 := Fr.app N160 Nq161
      refine EndsQ.go (fun t k => st161.trans k) ?_
      show EndsQ _ _ _ _ _ _ _ (T161.setTop (mkF m 172 #[.val (.int p1), .val (.int p2), .val (.int p3), .val (.int p4), .val (.int p5), .val (.int va), .val (.int vb), .val (.int vc), .val (.int ve), .val (.int vf), .val (.ref (oo 0)), .val (.int (0 : Int32)), .val (.int (2 : Int32)), .val (.int (1 : Int32)), .val (.int ve)] [(.int ((1 : Int32) - (0 : Int32)))]))
      rw [(by decide : ((1 : Int32) - (0 : Int32)) = (1 : Int32))]
      show EndsQ _ _ _ _ _ _ _ (T161.setTop (mkF m 172 #[.val (.int p1), .val (.int p2), .val (.int p3), .val (.int p4), .val (.int p5), .val (.int va), .val (.int vb), .val (.int vc), .val (.int ve), .val (.int vf), .val (.ref (oo 0)), .val (.int (0 : Int32)), .val (.int (2 : Int32)), .val (.int (1 : Int32)), .val (.int ve)] [(.int (1 : Int32))]))
      refine EndsQ.go (b := T161.setTop (mkF m 180 #[.val (.int p1), .val (.int p2), .val (.int p3), .val (.int p4), .val (.int p5), .val (.int va), .val (.int vb), .val (.int vc), .val (.int ve), .val (.int vf), .val (.ref (oo 0)), .val (.int (0 : Int32)), .val (.int (2 : Int32)), .val (.int (1 : Int32)), .val (.int ve)] [(.int (0 : Int32)), (.ref (oo 0))])) (fun t k => ?_) ?_
      · show Steps p.tables e below (T161.setTop (mkF m 172 #[.val (.int p1), .val (.int p2), .val (.int p3), .val (.int p4), .val (.int p5), .val (.int va), .val (.int vb), .val (.int vc), .val (.int ve), .val (.int vf), .val (.ref (oo 0)), .val (.int (0 : Int32)), .val (.int (2 : Int32)), .val (.int (1 : Int32)), .val (.int ve)] [(.int (1 : Int32))])) _
        refine XS.iload X161.here hx rfl (hb hby at_172) rfl ?_
        refine XS.icmpNo X161.here hx rfl (hb hby at_174) rfl (teq (by decide)).2 ?_
        show Steps p.tables e below (T161.setTop (mkF m 177 #[.val (.int p1), .val (.int p2), .val (.int p3), .val (.int p4), .val (.int p5), .val (.int va), .val (.int vb), .val (.int vc), .val (.int ve), .val (.int vf), .val (.ref (oo 0)), .val (.int (0 : Int32)), .val (.int (2 : Int32)), .val (.int (1 : Int32)), .val (.int ve)] [])) _
        refine XS.aload X161.here hx rfl (hb hby at_177) rfl rfl ?_
        show Steps p.tables e below (T161.setTop (mkF m 179 #[.val (.int p1), .val (.int p2), .val (.int p3), .val (.int p4), .val (.int p5), .val (.int va), .val (.int vb), .val (.int vc), .val (.int ve), .val (.int vf), .val (.ref (oo 0)), .val (.int (0 : Int32)), .val (.int (2 : Int32)), .val (.int (1 : Int32)), .val (.int ve)] [(.ref (oo 0))])) _
        refine XS.iconst X161.here hx rfl (hb hby at_179) ?_
        exact k
      obtain ⟨cq162, kq162, qa162, qb162, qc162⟩ := isOf hZ eq161 SE_158
      obtain ⟨_, _, ⟨T162, L162, kk162, nn162⟩, -, X162, ⟨Lc162, hQ162, l162, y162, z162⟩, st162⟩ := X161.virtualBack hx (y := (⟨"com/example/physarum/physarum/Proposals", "highest", "(I)D"⟩ : MethodName)) (z := (⟨"com/example/physarum/physarum/Proposals", "highest", "(I)D"⟩ : MethodName)) hown (mvT hZ (hw _ (List.mem_of_getElem? (i := 66) rfl))) (mvT hZ (hw _ (List.mem_of_getElem? (i := 67) rfl))) (notFace_of_selects (args := #[]) (mvT hZ (hw _ (List.mem_of_getElem? (i := 69) rfl)))) (mvT hZ (hw _ (List.mem_of_getElem? (i := 69) rfl))) (mvT hZ (hw _ (List.mem_of_getElem? (i := 68) rfl))) (by decide) (backOf (W := 0) (rmHigh2 l Z a0 hw [] oo kk vc va (0 : Int32) (0 : Int32) (1 : Int32) (0 : Int32) (FP.l2d (ve.toInt64)) (FP.l2d (vf.toInt64)) (0 : UInt64) (2 : Int32) (FP.l2d (ve.toInt64)) (FP.l2d (vf.toInt64)) (0 : UInt64) (0 : Int32) (0 : Int32) ((own_L0.set (vc).toNatClampNeg (.int (0 : Int32))).set (va).toNatClampNeg (.int (1 : Int32))) (2 : Int32) (2 : Int32) T158.heap n0 hz158 hne hn ⟨SE_158, SF_candidates_158, SF_proposed_158, SF_confidences_158, SF_starts_158, SF_arranged_158, SF_taken_158, SF_indices_158, SF_cnt_158, SF_sz_158, SA_1_158, SA_2_158, SA_3_158, SA_4_158, SA_5_158, SA_6_158, SA_7_158⟩ ) hZ (hw _ (List.mem_of_getElem? (i := 70) rfl)) (hw _ (List.mem_of_getElem? (i := 2) rfl)) (by decide) (by decide)) qa162 qc162 (g := (mkF m 180 #[.val (.int p1), .val (.int p2), .val (.int p3), .val (.int p4), .val (.int p5), .val (.int va), .val (.int vb), .val (.int vc), .val (.int ve), .val (.int vf), .val (.ref (oo 0)), .val (.int (0 : Int32)), .val (.int (2 : Int32)), .val (.int (1 : Int32)), .val (.int ve)] [(.int (0 : Int32)), (.ref (oo 0))])) rfl (by rw [hml]; rfl) (Steps.refl _) (argsL := [(.int (0 : Int32))]) (rest := []) (lenOf pd_9 rfl) rfl (by show 2 * 0 + _ ≤ _; exact Nat.le_of_eq rfl) (hb hby at_180) (fun _ _ => ⟨rfl, eq161, (by decide : 8 + 0 ≤ _), (by decide : 254 + 0 ≤ _)⟩)
      dsimp only [Pt.U, Pt.locs, Pt.cells, Pt.slots] at X162 l162 y162 z162 st162 hQ162
      subst l162 y162 z162
      obtain ⟨rfl, Nq162, hz162, HS162⟩ := hQ162
      have N162 := Fr.app N161 Nq162
      obtain ⟨SE_162, SF_candidates_162, SF_proposed_162, SF_confidences_162, SF_starts_162, SF_arranged_162, SF_taken_162, SF_indices_162, SF_cnt_162, SF_sz_162, SA_1_162, SA_2_162, SA_3_162, SA_4_162, SA_5_162, SA_6_162, SA_7_162⟩ := HS162
      refine EndsQ.go (fun t k => st162.trans k) ?_
      show EndsQ _ _ _ _ _ _ _ (T162.setTop (mkF m 183 #[.val (.int p1), .val (.int p2), .val (.int p3), .val (.int p4), .val (.int p5), .val (.int va), .val (.int vb), .val (.int vc), .val (.int ve), .val (.int vf), .val (.ref (oo 0)), .val (.int (0 : Int32)), .val (.int (2 : Int32)), .val (.int (1 : Int32)), .val (.int ve)] [(.double (FP.l2d (ve.toInt64)))]))
      refine EndsQ.go (b := T162.setTop (mkF m 195 #[.val (.int p1), .val (.int p2), .val (.int p3), .val (.int p4), .val (.int p5), .val (.int va), .val (.int vb), .val (.int vc), .val (.int ve), .val (.int vf), .val (.ref (oo 0)), .val (.int (0 : Int32)), .val (.int (2 : Int32)), .val (.int (1 : Int32)), .val (.int ve)] [(.int (1 : Int32))])) (fun t k => ?_) ?_
      · show Steps p.tables e below (T162.setTop (mkF m 183 #[.val (.int p1), .val (.int p2), .val (.int p3), .val (.int p4), .val (.int p5), .val (.int va), .val (.int vb), .val (.int vc), .val (.int ve), .val (.int vf), .val (.ref (oo 0)), .val (.int (0 : Int32)), .val (.int (2 : Int32)), .val (.int (1 : Int32)), .val (.int ve)] [(.double (FP.l2d (ve.toInt64)))])) _
        refine XS.iload X162.here hx rfl (hb hby at_183) rfl ?_
        refine XS.i2dS X162.here hx rfl (hb hby at_185) rfl (i2d_w _) ?_
        refine XS.dcmpS X162.here hx rfl (hb hby at_186) rfl (dcmpV_w (own_b53 ve) (own_b53 ve) .l) ?_
        show Steps p.tables e below (T162.setTop (mkF m 187 #[.val (.int p1), .val (.int p2), .val (.int p3), .val (.int p4), .val (.int p5), .val (.int va), .val (.int vb), .val (.int vc), .val (.int ve), .val (.int vf), .val (.ref (oo 0)), .val (.int (0 : Int32)), .val (.int (2 : Int32)), .val (.int (1 : Int32)), .val (.int ve)] [(.int (lcmpW (ve.toInt64) (ve.toInt64)))])) _
        refine XS.ifNo X162.here hx rfl (hb hby at_187) rfl ((if0 _ _).trans (teq ((lw_eq (ve.toInt64) (ve.toInt64)).mpr rfl)).2) ?_
        show Steps p.tables e below (T162.setTop (mkF m 190 #[.val (.int p1), .val (.int p2), .val (.int p3), .val (.int p4), .val (.int p5), .val (.int va), .val (.int vb), .val (.int vc), .val (.int ve), .val (.int vf), .val (.ref (oo 0)), .val (.int (0 : Int32)), .val (.int (2 : Int32)), .val (.int (1 : Int32)), .val (.int ve)] [])) _
        refine XS.iconst X162.here hx rfl (hb hby at_190) ?_
        refine XS.goto X162.here hx rfl (pc0 := 191) (pc' := 195) rfl (hb hby at_191) (by decide) (by decide) ?_
        exact k
      refine EndsQ.retN X162 hx Bd.notSynchronized (t := .boolean) Bd.returns (by simp) (hb hby at_195) (by decide) (by decide) ?_
      show Q0 Z p1 p2 p3 p4 p5 h0 n0 (some (.int (nar .boolean (1 : Int32)))) T162.heap _
      exact ⟨rfl, N162⟩
set_option maxRecDepth 65536 in
set_option maxHeartbeats 40000000 in
theorem comes_1 {Post : Tables → Env → Array Value → State → Outcome → State → Prop} (hpost : ∀ tb e args s v u, (limb_1_1.after args s (.returned v) u = true ∧ limb_1_2.after args s (.returned v) u = true ∧ True) → FrameEnd s (.returned v) u (Jvm.fieldLocs frame_1_writes args s ++ Jvm.arrayLocs frame_1_arrays args s ++ Jvm.staticLocs frame_1_statics s) 24 576 → Post tb e args s (.returned v) u) :
    ArmFor flags0 classFile x code maxLocals ret World_1 tables_1 room_1 Calls_1 rest_1 Pre_1 Post := by
  intro l hfl _ _ p e ha hc hk s m args below hf hA hF happ hP
  obtain ⟨hcalls, hrest, hpre⟩ := hP
  obtain ⟨-, -, -, hnamed, -, -, -, hat⟩ := (Spec.applies_iff hf).mp happ
  obtain ⟨hg, hn⟩ := and_e (Cond.before_iff.mp (show (Jvm.Cond.and given_1 narrow_1).before args s = true from hpre))
  obtain ⟨g1a, g1b⟩ := and_e hg
  obtain ⟨g2a, g2b⟩ := and_e g1b
  obtain ⟨g3a, g3b⟩ := and_e g2b
  obtain ⟨g4a, g4b⟩ := and_e g3b
  obtain ⟨g5a, g5b⟩ := and_e g4b
  obtain ⟨w0, w1, w2, w3, w4, rfl⟩ : ∃ w0 w1 w2 w3 w4 : Value, args = #[w0, w1, w2, w3, w4] := by
    have hs : args.size = 5 := by simpa [Cond.value, given_1] using g1a
    obtain ⟨L⟩ := args
    match L, hs with
    | [w0, w1, w2, w3, w4], _ => exact ⟨w0, w1, w2, w3, w4, rfl⟩
  have hw := fun d (hd : d ∈ tables_1) => atoms_spec (ws := Jvm.Cond.code x code maxLocals ret :: tables_1) hat d (List.mem_cons_of_mem _ hd)
  have hfit : Fit s := fun {y c} hc i hi => by
    obtain ⟨ha, rfl⟩ := Array.getElem?_eq_some_iff.mp hc
    have q := List.all_eq_true.mp ((Array.all_eq_true_iff_forall_mem.mp hF) _ (Array.getElem_mem ha)) i (List.mem_range.mpr hi)
    simpa [Array.getElem?_eq_getElem hi] using q
  obtain ⟨i0, ei0⟩ := is_v g2a
  obtain rfl : w0 = (.int i0) := Option.some.inj ei0
  obtain ⟨i1, ei1⟩ := is_v g3a
  obtain rfl : w1 = (.int i1) := Option.some.inj ei1
  obtain ⟨i2, ei2⟩ := is_v g4a
  obtain rfl : w2 = (.int i2) := Option.some.inj ei2
  obtain ⟨i3, ei3⟩ := is_v g5a
  obtain rfl : w3 = (.int i3) := Option.some.inj ei3
  obtain ⟨i4, ei4⟩ := is_v g5b
  obtain rfl : w4 = (.int i4) := Option.some.inj ei4
  obtain ⟨n, o, h1, h2, h3, _, L, rfl, ⟨rfl, N⟩, hq⟩ := rm0 l s _ hw tables_1 i0 i1 i2 i3 i4 s.heap s.heap.size (Nat.le_refl _) p e ha hc hk s m _ below hf ((Spec.applies_iff_loose hf).mp happ).1 ⟨rfl, State.Warmed39.refl s, rfl⟩ trivial
  refine ⟨n, _, h1, h2, h3, hpost _ _ _ _ _ _ ⟨Cond.after_iff.mpr rfl, Cond.after_iff.mpr (eq_i res_at (Term.int_eval (1)) rfl), trivial⟩ ⟨hq.1, hq.2.1, (hq.2.2.sift fun y hy => Or.inr (N y hy)).mono (by decide) (by decide)⟩⟩
theorem main_1_1 : Claimed_1_1 := comes_1 fun _ _ _ _ _ _ h hF => ⟨h.1, hF⟩
theorem main_1_2 : Claimed_1_2 := comes_1 fun _ _ _ _ _ _ h hF => ⟨h.2.1, hF⟩
end Jvm.Pilot.@@N@@
namespace Jvm.Pilot.@@N@@
open Jvm Jvm.ClassFile Sem Op Lib Jvm.Free Jvm.Stand Jvm.Pilot.@@N@@.Jvm.D
/-! MADE BY PROGRAM (witnessworld.py) out of the Statement's table words and the real class files: 13 classes; the members and pool entries that the words name. The judged class is class 1, her method 1. -/
namespace start1
open Jvm.ClassFile
def u (s : String) : CpInfo := .utf8 (stringToUtf16 s)
/-- a pool by its gaps: so many unusable entries, then the entry; so many at the end -/
def gap : Nat → List CpInfo → List CpInfo
  | 0, r => r
  | n + 1, r => .unusable :: gap n r
def poolList (es : List (Nat × CpInfo)) (last : Nat) : List CpInfo := es.foldr (fun e r => gap e.1 (e.2 :: r)) (gap last [])
def pool (es : List (Nat × CpInfo)) (last : Nat) : Array CpInfo := ⟨poolList es last⟩
def fileOf (pool : Array CpInfo) (this : Nat) (attrs : Array Attribute := #[]) (ms : Array MethodInfo := #[]) (fl : Nat := 33) (sup : Nat := 0) (ifs : Array Nat := #[]) (fds : Array FieldInfo := #[]) : ClassFile where
  minorVersion := 0
  majorVersion := 65
  constantPool := pool
  accessFlags := fl
  thisClass := this
  superClass := sup
  interfaces := ifs
  fields := fds
  methods := ms
  attributes := attrs
def plain (name : String) (sup : Option ClassId) : Class where
  name := name
  kind := .ordinary
  loader := none
  accessFlags := 33
  super := sup
  interfaces := #[]
  cf := none
  fields := #[]
  methods := #[]
  instanceTypes := #[]
  staticTypes := #[]
  resolved := #[]
  callSites := []
  init := .initialized
  statics := none
  mirror := none

def pool0 : Array CpInfo := pool [(5, u "<init>"), (0, u "()V"), (1, .class_ 10), (1, u "java/lang/Object")] 113

def k0c0 : Code := { maxStack := 0, maxLocals := 1, code := object_method_1_code, exceptionTable := #[], attributes := #[] }
def k0m0 : Method := { name := "<init>", desc := "()V", sig := { parameters := [], returnType := none }, accessFlags := 1, code := some k0c0 }
/-- java/lang/Object -/
def k0 : Class := { plain "java/lang/Object" none with
  accessFlags := 33
  interfaces := #[]
  cf := some (fileOf pool0 8 #[] #[{ accessFlags := 1, nameIndex := 5, descriptorIndex := 6, attributes := #[] }] 33 0 #[] #[])
  fields := #[]
  methods := #[k0m0]
  instanceTypes := #[]
  staticTypes := #[]
  resolved := Array.replicate 124 none
  statics := none }

def pool1 : Array CpInfo := pool [(2, .class_ 4), (1, u "java/lang/Object"), (0, u "<init>"), (0, u "()V"), (0, .class_ 8), (0, u "com/example/physarum/physarum/Proposals"), (0, .methodref 7 10), (0, .nameAndType 5 11), (0, u "(I)V"), (0, .double 4636737291354636288), (1, .methodref 7 15), (0, .nameAndType 16 17), (0, u "add"), (0, u "(ID)V"), (0, .double 4641240890982006784), (1, .methodref 7 21), (0, .nameAndType 22 6), (0, u "clear"), (0, .methodref 7 24), (0, .nameAndType 25 6), (0, u "arrange"), (0, .methodref 27 28), (0, .class_ 29), (0, .nameAndType 30 31), (0, u "java/lang/Math"), (0, u "max"), (0, u "(II)I"), (0, .methodref 7 33), (0, .nameAndType 34 35), (0, u "size"), (0, u "()I"), (0, .methodref 7 37), (0, .nameAndType 38 39), (0, u "candidate"), (0, u "(I)I"), (0, .methodref 7 41), (0, .nameAndType 42 39), (0, u "count"), (0, .methodref 7 44), (0, .nameAndType 45 46), (0, u "highest"), (0, u "(I)D"), (0, .class_ 48), (0, u "com/example/physarum/physarum/ProposalsClearPinLaw"), (2, u "law"), (0, u "(IIIII)Z")] 3

def k1m0 : Method := { name := "<init>", desc := "()V", sig := { parameters := [], returnType := none }, accessFlags := 1, code := none }
def k1c1 : Code := { maxStack := 4, maxLocals := 15, code := code, exceptionTable := #[], attributes := #[] }
def k1m1 : Method := { name := "law", desc := "(IIIII)Z", sig := { parameters := [.int, .int, .int, .int, .int], returnType := some .boolean }, accessFlags := 9, code := some k1c1 }
/-- com/example/physarum/physarum/ProposalsClearPinLaw -/
def k1 : Class := { plain "com/example/physarum/physarum/ProposalsClearPinLaw" (some 0) with
  accessFlags := 49
  interfaces := #[]
  cf := some (fileOf pool1 47 #[] #[{ accessFlags := 1, nameIndex := 5, descriptorIndex := 6, attributes := #[] }, { accessFlags := 9, nameIndex := 51, descriptorIndex := 52, attributes := #[] }] 49 2 #[] #[])
  fields := #[]
  methods := #[k1m0, k1m1]
  instanceTypes := #[]
  staticTypes := #[]
  resolved := Array.replicate 56 none
  statics := none }

def pool2 : Array CpInfo := pool [(1, .methodref 2 3), (0, .class_ 4), (0, .nameAndType 5 6), (0, u "java/lang/Object"), (0, u "<init>"), (0, u "()V"), (0, .fieldref 8 9), (0, .class_ 10), (0, .nameAndType 11 12), (0, u "com/example/physarum/physarum/Proposals"), (0, u "candidates"), (0, u "[I"), (0, .fieldref 8 14), (0, .nameAndType 15 12), (0, u "proposed"), (0, .fieldref 8 17), (0, .nameAndType 18 19), (0, u "confidences"), (0, u "[D"), (0, .fieldref 8 21), (0, .nameAndType 22 12), (0, u "starts"), (0, .fieldref 8 24), (0, .nameAndType 25 19), (0, u "arranged"), (0, .fieldref 8 27), (0, .nameAndType 28 12), (0, u "taken"), (0, .fieldref 8 30), (0, .nameAndType 31 12), (0, u "indices"), (0, .methodref 33 34), (0, .class_ 35), (0, .nameAndType 36 37), (0, u "java/util/Arrays"), (0, u "fill"), (0, u "([II)V"), (0, .fieldref 8 39), (0, .nameAndType 40 41), (0, u "candidateCount"), (0, u "I"), (0, .fieldref 8 43), (0, .nameAndType 44 41), (0, u "size"), (7, .methodref 8 53), (0, .nameAndType 54 55), (0, u "count"), (0, u "(I)I"), (0, .methodref 8 57), (0, .nameAndType 58 59), (0, u "siftDown"), (0, u "(III)V"), (0, .methodref 8 61), (0, .nameAndType 62 63), (0, u "confidence"), (0, u "(II)D"), (16, u "(I)V"), (2, u "clear"), (1, u "add"), (0, u "(ID)V"), (0, u "arrange"), (0, u "()I"), (0, u "candidate"), (0, u "highest"), (0, u "(I)D")] 2

def k2c0 : Code := { maxStack := 2, maxLocals := 2, code := prog_44_method_1_code, exceptionTable := #[], attributes := #[] }
def k2m0 : Method := { name := "<init>", desc := "(I)V", sig := { parameters := [.int], returnType := none }, accessFlags := 0, code := some k2c0 }
def k2c1 : Code := { maxStack := 3, maxLocals := 2, code := prog_44_method_2_code, exceptionTable := #[], attributes := #[] }
def k2m1 : Method := { name := "clear", desc := "()V", sig := { parameters := [], returnType := none }, accessFlags := 0, code := some k2c1 }
def k2c2 : Code := { maxStack := 4, maxLocals := 5, code := prog_44_method_3_code, exceptionTable := #[], attributes := #[] }
def k2m2 : Method := { name := "add", desc := "(ID)V", sig := { parameters := [.int, .double], returnType := none }, accessFlags := 0, code := some k2c2 }
def k2c3 : Code := { maxStack := 6, maxLocals := 4, code := prog_44_method_4_code, exceptionTable := #[], attributes := #[] }
def k2m3 : Method := { name := "arrange", desc := "()V", sig := { parameters := [], returnType := none }, accessFlags := 0, code := some k2c3 }
def k2c4 : Code := { maxStack := 1, maxLocals := 1, code := prog_44_method_5_code, exceptionTable := #[], attributes := #[] }
def k2m4 : Method := { name := "size", desc := "()I", sig := { parameters := [], returnType := some .int }, accessFlags := 0, code := some k2c4 }
def k2c5 : Code := { maxStack := 2, maxLocals := 2, code := prog_44_method_6_code, exceptionTable := #[], attributes := #[] }
def k2m5 : Method := { name := "candidate", desc := "(I)I", sig := { parameters := [.int], returnType := some .int }, accessFlags := 0, code := some k2c5 }
def k2c6 : Code := { maxStack := 3, maxLocals := 2, code := prog_44_method_7_code, exceptionTable := #[], attributes := #[] }
def k2m6 : Method := { name := "count", desc := "(I)I", sig := { parameters := [.int], returnType := some .int }, accessFlags := 0, code := some k2c6 }
def k2c7 : Code := { maxStack := 3, maxLocals := 2, code := prog_44_method_8_code, exceptionTable := #[], attributes := #[] }
def k2m7 : Method := { name := "highest", desc := "(I)D", sig := { parameters := [.int], returnType := some .double }, accessFlags := 0, code := some k2c7 }
def k2c8 : Code := { maxStack := 5, maxLocals := 7, code := prog_44_method_9_code, exceptionTable := #[], attributes := #[] }
def k2m8 : Method := { name := "confidence", desc := "(II)D", sig := { parameters := [.int, .int], returnType := some .double }, accessFlags := 0, code := some k2c8 }
def k2c9 : Code := { maxStack := 5, maxLocals := 8, code := prog_44_method_11_code, exceptionTable := #[], attributes := #[] }
def k2m9 : Method := { name := "siftDown", desc := "(III)V", sig := { parameters := [.int, .int, .int], returnType := none }, accessFlags := 2, code := some k2c9 }
/-- com/example/physarum/physarum/Proposals -/
def k2 : Class := { plain "com/example/physarum/physarum/Proposals" (some 0) with
  accessFlags := 48
  interfaces := #[]
  cf := some (fileOf pool2 8 #[] #[{ accessFlags := 0, nameIndex := 5, descriptorIndex := 80, attributes := #[] }, { accessFlags := 0, nameIndex := 83, descriptorIndex := 6, attributes := #[] }, { accessFlags := 0, nameIndex := 85, descriptorIndex := 86, attributes := #[] }, { accessFlags := 0, nameIndex := 87, descriptorIndex := 6, attributes := #[] }, { accessFlags := 0, nameIndex := 44, descriptorIndex := 88, attributes := #[] }, { accessFlags := 0, nameIndex := 89, descriptorIndex := 55, attributes := #[] }, { accessFlags := 0, nameIndex := 54, descriptorIndex := 55, attributes := #[] }, { accessFlags := 0, nameIndex := 90, descriptorIndex := 91, attributes := #[] }, { accessFlags := 0, nameIndex := 62, descriptorIndex := 63, attributes := #[] }, { accessFlags := 2, nameIndex := 58, descriptorIndex := 59, attributes := #[] }] 48 2 #[] #[{ accessFlags := 18, nameIndex := 31, descriptorIndex := 12, attributes := #[] }, { accessFlags := 2, nameIndex := 11, descriptorIndex := 12, attributes := #[] }, { accessFlags := 2, nameIndex := 40, descriptorIndex := 41, attributes := #[] }, { accessFlags := 2, nameIndex := 15, descriptorIndex := 12, attributes := #[] }, { accessFlags := 2, nameIndex := 18, descriptorIndex := 19, attributes := #[] }, { accessFlags := 2, nameIndex := 44, descriptorIndex := 41, attributes := #[] }, { accessFlags := 2, nameIndex := 22, descriptorIndex := 12, attributes := #[] }, { accessFlags := 2, nameIndex := 25, descriptorIndex := 19, attributes := #[] }, { accessFlags := 2, nameIndex := 28, descriptorIndex := 12, attributes := #[] }])
  fields := #[{ name := "indices", type := (.array .int), accessFlags := 18, slot := 0, constantValue := 0 }, { name := "candidates", type := (.array .int), accessFlags := 2, slot := 1, constantValue := 0 }, { name := "candidateCount", type := .int, accessFlags := 2, slot := 2, constantValue := 0 }, { name := "proposed", type := (.array .int), accessFlags := 2, slot := 3, constantValue := 0 }, { name := "confidences", type := (.array .double), accessFlags := 2, slot := 4, constantValue := 0 }, { name := "size", type := .int, accessFlags := 2, slot := 5, constantValue := 0 }, { name := "starts", type := (.array .int), accessFlags := 2, slot := 6, constantValue := 0 }, { name := "arranged", type := (.array .double), accessFlags := 2, slot := 7, constantValue := 0 }, { name := "taken", type := (.array .int), accessFlags := 2, slot := 8, constantValue := 0 }]
  methods := #[k2m0, k2m1, k2m2, k2m3, k2m4, k2m5, k2m6, k2m7, k2m8, k2m9]
  instanceTypes := #[(.array .int), (.array .int), .int, (.array .int), (.array .double), .int, (.array .int), (.array .double), (.array .int)]
  staticTypes := #[]
  resolved := Array.replicate 94 none
  statics := none }

def pool3 : Array CpInfo := pool [(2, .class_ 4), (1, u "java/lang/Object"), (0, u "<init>"), (0, u "()V"), (7, .class_ 16), (1, u "java/util/Arrays"), (57, .class_ 76), (1, u "java/util/Arrays$NaturalOrder"), (36, .class_ 115), (1, u "java/util/Arrays$LegacyMergeSort"), (1, u "Z"), (257, .class_ 376), (0, u "java/util/Arrays$ArrayList"), (68, u "$assertionsDisabled"), (269, u "MIN_ARRAY_SORT_GRAN"), (0, u "I"), (2, u "INSERTIONSORT_THRESHOLD"), (120, u "fill"), (4, u "([II)V"), (129, .class_ 976), (0, u "java/util/Arrays$ArrayItr")] 52

def k3m0 : Method := { name := "<init>", desc := "()V", sig := { parameters := [], returnType := none }, accessFlags := 2, code := none }
def k3c1 : Code := { maxStack := 3, maxLocals := 4, code := jdk_65_method_103_code, exceptionTable := #[], attributes := #[] }
def k3m1 : Method := { name := "fill", desc := "([II)V", sig := { parameters := [(.array .int), .int], returnType := none }, accessFlags := 9, code := some k3c1 }
/-- java/util/Arrays -/
def k3 : Class := { plain "java/util/Arrays" (some 0) with
  accessFlags := 49
  interfaces := #[]
  cf := some (fileOf pool3 14 #[.nestMembers #[975, 375, 113, 74]] #[{ accessFlags := 2, nameIndex := 5, descriptorIndex := 6, attributes := #[] }, { accessFlags := 9, nameIndex := 840, descriptorIndex := 845, attributes := #[] }] 49 2 #[] #[{ accessFlags := 26, nameIndex := 715, descriptorIndex := 716, attributes := #[] }, { accessFlags := 26, nameIndex := 719, descriptorIndex := 716, attributes := #[] }, { accessFlags := 4120, nameIndex := 445, descriptorIndex := 117, attributes := #[] }])
  fields := #[{ name := "MIN_ARRAY_SORT_GRAN", type := .int, accessFlags := 26, slot := 0, constantValue := 0 }, { name := "INSERTIONSORT_THRESHOLD", type := .int, accessFlags := 26, slot := 1, constantValue := 0 }, { name := "$assertionsDisabled", type := .boolean, accessFlags := 4120, slot := 2, constantValue := 0 }]
  methods := #[k3m0, k3m1]
  instanceTypes := #[]
  staticTypes := #[.int, .int, .boolean]
  resolved := Array.replicate 1029 none
  statics := none }

def pool4 : Array CpInfo := pool [(1, .class_ 2), (0, u "java/lang/Math"), (1, .class_ 6), (1, u "java/lang/Object"), (0, u "<init>"), (0, u "()V"), (89, .class_ 100), (1, u "java/lang/Math$RandomNumberGeneratorHolder"), (71, u "negativeZeroFloatBits"), (0, u "J"), (2, u "negativeZeroDoubleBits"), (21, u "max"), (46, u "$assertionsDisabled"), (0, u "Z"), (88, u "(II)I"), (2, u "twoToTheDoubleScaleDown"), (0, u "D"), (4, u "twoToTheDoubleScaleUp"), (9, u "E"), (3, u "PI"), (2, u "TAU"), (2, u "DEGREES_TO_RADIANS"), (0, u "RADIANS_TO_DEGREES")] 94

def k4m0 : Method := { name := "<init>", desc := "()V", sig := { parameters := [], returnType := none }, accessFlags := 2, code := none }
def k4c1 : Code := { maxStack := 2, maxLocals := 2, code := jdk_29_method_65_code, exceptionTable := #[], attributes := #[] }
def k4m1 : Method := { name := "max", desc := "(II)I", sig := { parameters := [.int, .int], returnType := some .int }, accessFlags := 9, code := some k4c1 }
/-- java/lang/Math -/
def k4 : Class := { plain "java/lang/Math" (some 0) with
  accessFlags := 49
  interfaces := #[]
  cf := some (fileOf pool4 1 #[.nestMembers #[98]] #[{ accessFlags := 2, nameIndex := 7, descriptorIndex := 8, attributes := #[] }, { accessFlags := 9, nameIndex := 198, descriptorIndex := 335, attributes := #[] }] 49 4 #[] #[{ accessFlags := 25, nameIndex := 354, descriptorIndex := 339, attributes := #[] }, { accessFlags := 25, nameIndex := 358, descriptorIndex := 339, attributes := #[] }, { accessFlags := 25, nameIndex := 361, descriptorIndex := 339, attributes := #[] }, { accessFlags := 26, nameIndex := 364, descriptorIndex := 339, attributes := #[] }, { accessFlags := 26, nameIndex := 365, descriptorIndex := 339, attributes := #[] }, { accessFlags := 26, nameIndex := 172, descriptorIndex := 173, attributes := #[] }, { accessFlags := 26, nameIndex := 176, descriptorIndex := 173, attributes := #[] }, { accessFlags := 8, nameIndex := 344, descriptorIndex := 339, attributes := #[] }, { accessFlags := 8, nameIndex := 338, descriptorIndex := 339, attributes := #[] }, { accessFlags := 4120, nameIndex := 245, descriptorIndex := 246, attributes := #[] }])
  fields := #[{ name := "E", type := .double, accessFlags := 25, slot := 0, constantValue := 0 }, { name := "PI", type := .double, accessFlags := 25, slot := 1, constantValue := 0 }, { name := "TAU", type := .double, accessFlags := 25, slot := 2, constantValue := 0 }, { name := "DEGREES_TO_RADIANS", type := .double, accessFlags := 26, slot := 3, constantValue := 0 }, { name := "RADIANS_TO_DEGREES", type := .double, accessFlags := 26, slot := 4, constantValue := 0 }, { name := "negativeZeroFloatBits", type := .long, accessFlags := 26, slot := 5, constantValue := 0 }, { name := "negativeZeroDoubleBits", type := .long, accessFlags := 26, slot := 6, constantValue := 0 }, { name := "twoToTheDoubleScaleUp", type := .double, accessFlags := 8, slot := 7, constantValue := 0 }, { name := "twoToTheDoubleScaleDown", type := .double, accessFlags := 8, slot := 8, constantValue := 0 }, { name := "$assertionsDisabled", type := .boolean, accessFlags := 4120, slot := 9, constantValue := 0 }]
  methods := #[k4m0, k4m1]
  instanceTypes := #[]
  staticTypes := #[.double, .double, .double, .double, .double, .long, .long, .double, .double, .boolean]
  resolved := Array.replicate 460 none
  statics := none }

def pool5 : Array CpInfo := pool [(1, u "java/lang/Cloneable"), (0, .class_ 1), (0, u "java/lang/Object"), (0, .class_ 3)] 3

/-- java/lang/Cloneable -/
def k5 : Class := { plain "java/lang/Cloneable" (some 0) with
  accessFlags := 1537
  interfaces := #[]
  cf := some (fileOf pool5 2 #[] #[] 1537 4 #[] #[])
  fields := #[]
  methods := #[]
  instanceTypes := #[]
  staticTypes := #[]
  resolved := Array.replicate 8 none
  statics := none }

def pool6 : Array CpInfo := pool [(1, u "java/io/Serializable"), (0, .class_ 1), (0, u "java/lang/Object"), (0, .class_ 3)] 3

/-- java/io/Serializable -/
def k6 : Class := { plain "java/io/Serializable" (some 0) with
  accessFlags := 1537
  interfaces := #[]
  cf := some (fileOf pool6 2 #[] #[] 1537 4 #[] #[])
  fields := #[]
  methods := #[]
  instanceTypes := #[]
  staticTypes := #[]
  resolved := Array.replicate 8 none
  statics := none }

/-- the primitive byte -/
def k7 : Class := { plain "byte" none with kind := .primitive 'B', accessFlags := 0x411 }
/-- [B -/
def k8 : Class := { plain "[B" (some 0) with kind := .array 7 .byte, interfaces := #[5, 6], accessFlags := 1041 }

/-- the primitive double -/
def k9 : Class := { plain "double" none with kind := .primitive 'D', accessFlags := 0x411 }
/-- [D -/
def k10 : Class := { plain "[D" (some 0) with kind := .array 9 .double, interfaces := #[5, 6], accessFlags := 1041 }

/-- the primitive int -/
def k11 : Class := { plain "int" none with kind := .primitive 'I', accessFlags := 0x411 }
/-- [I -/
def k12 : Class := { plain "[I" (some 0) with kind := .array 11 .int, interfaces := #[5, 6], accessFlags := 1041 }

def heap : Heap := #[]
def classes : Array Class := #[k0, k1, k2, k3, k4, k5, k6, k7, k8, k9, k10, k11, k12]
def interned : List (Array UInt16 × Addr) := []
def slotsUsed : Nat := 0
def theMethod : MethodId := ⟨1, 1⟩
def args0 : Array Value := #[.int 5, .int 6, .int 5, .int 6, .int 5]
def aboutOver (below : List Frame) : State where
  vm := { classes := classes, interned := interned.toArray }
  heap := heap
  slotsUsed := slotsUsed
  threads := #[{ frames := .invoking theMethod args0 :: below }]
def below0 : List Frame := [.native { method := ⟨0, 0⟩, args := #[] }]
def about1 : State := aboutOver below0
def p0 : Program := .bare "" "" ""
def e0 : Env := launch0.env 0 0 0
theorem w_frames : about1.frames = Frame.invoking theMethod args0 :: below0 := rfl
set_option maxRecDepth 65536 in
theorem w_args : argsFit about1.vm theMethod args0 = true := by decide +kernel
set_option maxRecDepth 65536 in
theorem w_heap : heapFits about1 = true := by decide +kernel
set_option maxRecDepth 65536 in
theorem w_runnable : about1.curStatus? = some .runnable := by decide +kernel
set_option maxRecDepth 65536 in
theorem w_alone : about1.alone = true := by decide +kernel
set_option maxRecDepth 65536 in
theorem w_named : about1.methodNamed? x = some theMethod := by decide +kernel
set_option maxRecDepth 65536 in
theorem w_hears : about1.hears theMethod below0 = true := by decide +kernel
set_option maxRecDepth 65536 in
theorem w_ripe : about1.ripe theMethod args0 below0 = true := by decide +kernel
theorem w_running : about1.status = .running := rfl
set_option maxRecDepth 65536 in
theorem w_room : about1.hasRoom e0.platform room_1 = true :=
  launch0.hasRoom_least _ room_1 (by decide +kernel) (by decide +kernel) (by decide +kernel) (by decide +kernel) (by decide +kernel) (by decide +kernel)
theorem allAtoms_all (ts : List Jvm.Cond) (a : Array Jvm.Value) (st : Jvm.State) : (allAtoms ts).before a st = ts.all (fun c => c.before a st) := by
  induction ts with
  | nil => rfl
  | cons c t ih =>
    show (Jvm.Cond.and c (allAtoms t)).before a st = _
    rw [Jvm.Cond.before_and, ih, List.all_cons]
def words1 : List Jvm.Cond := Jvm.Cond.code x code maxLocals ret :: tables_1
/-- a 'code' word, met by the world's own term for the bytes: nothing is compared byte by byte -/
theorem code_word {y : MethodName} {bytes : ByteArray} {mx : Nat} {rt : Option FieldType} {a : Array Value} {s : State} {m : MethodId} {meth : Method} {c : Code} (h1 : s.methodNamed? y = some m) (h2 : s.vm.method? m = some meth) (h3 : meth.code = some c) (h4 : c.code = bytes)
    (h5 : (c.maxLocals == mx && c.exceptionTable.isEmpty && decide (c.maxStack ≤ mostOperands) && decide (meth.sig.returnType = rt) && !meth.locks && decide (parseMethodDescriptor y.desc = some meth.sig)) = true) : (Jvm.Cond.code y bytes mx rt).before a s = true := by
  simp only [Bool.and_eq_true, beq_iff_eq, Bool.not_eq_true', decide_eq_true_eq] at h5
  obtain ⟨⟨⟨⟨⟨g1, g2⟩, g3⟩, g4⟩, g5⟩, g6⟩ := h5
  simp [Cond.before, Cond.holds, Cond.value, h1, h2, h3, h4, g1, g2, g3, g4, g5, g6]
def isCode : Jvm.Cond → Bool
  | .code _ _ _ _ => true
  | _ => false
theorem all_split {L : List Jvm.Cond} {P : Jvm.Cond → Bool} (h1 : L.all (fun c => isCode c || P c) = true) (h2 : ∀ c ∈ L.filter isCode, P c = true) : L.all P = true := by
  refine List.all_eq_true.mpr fun c hc => ?_
  have h := List.all_eq_true.mp h1 c hc
  rcases Bool.eq_false_or_eq_true (isCode c) with hi | hi
  · exact h2 c (List.mem_filter.mpr ⟨hc, hi⟩)
  · simpa [hi] using h
set_option maxRecDepth 65536 in
theorem w_c0 : (Jvm.Cond.code x code maxLocals ret).before args0 about1 = true := code_word (m := ⟨1, 1⟩) (meth := k1m1) (c := k1c1) (by decide +kernel) rfl rfl rfl (by decide +kernel)
set_option maxRecDepth 65536 in
theorem w_c1 : (Jvm.Cond.code ({ cls := "com/example/physarum/physarum/Proposals", name := "<init>", desc := "(I)V" } : Jvm.MethodName) prog_44_method_1_code (2 : Nat) (Option.none : Option Jvm.ClassFile.FieldType)).before args0 about1 = true := code_word (m := ⟨2, 0⟩) (meth := k2m0) (c := k2c0) (by decide +kernel) rfl rfl rfl (by decide +kernel)
set_option maxRecDepth 65536 in
theorem w_c2 : (Jvm.Cond.code ({ cls := "java/lang/Object", name := "<init>", desc := "()V" } : Jvm.MethodName) object_method_1_code (1 : Nat) (Option.none : Option Jvm.ClassFile.FieldType)).before args0 about1 = true := code_word (m := ⟨0, 0⟩) (meth := k0m0) (c := k0c0) (by decide +kernel) rfl rfl rfl (by decide +kernel)
set_option maxRecDepth 65536 in
theorem w_c3 : (Jvm.Cond.code ({ cls := "java/util/Arrays", name := "fill", desc := "([II)V" } : Jvm.MethodName) jdk_65_method_103_code (4 : Nat) (Option.none : Option Jvm.ClassFile.FieldType)).before args0 about1 = true := code_word (m := ⟨3, 1⟩) (meth := k3m1) (c := k3c1) (by decide +kernel) rfl rfl rfl (by decide +kernel)
set_option maxRecDepth 65536 in
theorem w_c4 : (Jvm.Cond.code ({ cls := "com/example/physarum/physarum/Proposals", name := "add", desc := "(ID)V" } : Jvm.MethodName) prog_44_method_3_code (5 : Nat) (Option.none : Option Jvm.ClassFile.FieldType)).before args0 about1 = true := code_word (m := ⟨2, 2⟩) (meth := k2m2) (c := k2c2) (by decide +kernel) rfl rfl rfl (by decide +kernel)
set_option maxRecDepth 65536 in
theorem w_c5 : (Jvm.Cond.code ({ cls := "com/example/physarum/physarum/Proposals", name := "clear", desc := "()V" } : Jvm.MethodName) prog_44_method_2_code (2 : Nat) (Option.none : Option Jvm.ClassFile.FieldType)).before args0 about1 = true := code_word (m := ⟨2, 1⟩) (meth := k2m1) (c := k2c1) (by decide +kernel) rfl rfl rfl (by decide +kernel)
set_option maxRecDepth 65536 in
theorem w_c6 : (Jvm.Cond.code ({ cls := "com/example/physarum/physarum/Proposals", name := "arrange", desc := "()V" } : Jvm.MethodName) prog_44_method_4_code (4 : Nat) (Option.none : Option Jvm.ClassFile.FieldType)).before args0 about1 = true := code_word (m := ⟨2, 3⟩) (meth := k2m3) (c := k2c3) (by decide +kernel) rfl rfl rfl (by decide +kernel)
set_option maxRecDepth 65536 in
theorem w_c7 : (Jvm.Cond.code ({ cls := "com/example/physarum/physarum/Proposals", name := "count", desc := "(I)I" } : Jvm.MethodName) prog_44_method_7_code (2 : Nat) (Option.some Jvm.ClassFile.FieldType.int)).before args0 about1 = true := code_word (m := ⟨2, 6⟩) (meth := k2m6) (c := k2c6) (by decide +kernel) rfl rfl rfl (by decide +kernel)
set_option maxRecDepth 65536 in
theorem w_c8 : (Jvm.Cond.code ({ cls := "com/example/physarum/physarum/Proposals", name := "size", desc := "()I" } : Jvm.MethodName) prog_44_method_5_code (1 : Nat) (Option.some Jvm.ClassFile.FieldType.int)).before args0 about1 = true := code_word (m := ⟨2, 4⟩) (meth := k2m4) (c := k2c4) (by decide +kernel) rfl rfl rfl (by decide +kernel)
set_option maxRecDepth 65536 in
theorem w_c9 : (Jvm.Cond.code ({ cls := "com/example/physarum/physarum/Proposals", name := "candidate", desc := "(I)I" } : Jvm.MethodName) prog_44_method_6_code (2 : Nat) (Option.some Jvm.ClassFile.FieldType.int)).before args0 about1 = true := code_word (m := ⟨2, 5⟩) (meth := k2m5) (c := k2c5) (by decide +kernel) rfl rfl rfl (by decide +kernel)
set_option maxRecDepth 65536 in
theorem w_c10 : (Jvm.Cond.code ({ cls := "com/example/physarum/physarum/Proposals", name := "highest", desc := "(I)D" } : Jvm.MethodName) prog_44_method_8_code (2 : Nat) (Option.some Jvm.ClassFile.FieldType.double)).before args0 about1 = true := code_word (m := ⟨2, 7⟩) (meth := k2m7) (c := k2c7) (by decide +kernel) rfl rfl rfl (by decide +kernel)
set_option maxRecDepth 65536 in
theorem w_c11 : (Jvm.Cond.code ({ cls := "com/example/physarum/physarum/Proposals", name := "confidence", desc := "(II)D" } : Jvm.MethodName) prog_44_method_9_code (7 : Nat) (Option.some Jvm.ClassFile.FieldType.double)).before args0 about1 = true := code_word (m := ⟨2, 8⟩) (meth := k2m8) (c := k2c8) (by decide +kernel) rfl rfl rfl (by decide +kernel)
set_option maxRecDepth 65536 in
theorem w_c12 : (Jvm.Cond.code ({ cls := "com/example/physarum/physarum/Proposals", name := "siftDown", desc := "(III)V" } : Jvm.MethodName) prog_44_method_11_code (8 : Nat) (Option.none : Option Jvm.ClassFile.FieldType)).before args0 about1 = true := code_word (m := ⟨2, 9⟩) (meth := k2m9) (c := k2c9) (by decide +kernel) rfl rfl rfl (by decide +kernel)
set_option maxRecDepth 65536 in
theorem w_c13 : (Jvm.Cond.code ({ cls := "java/lang/Math", name := "max", desc := "(II)I" } : Jvm.MethodName) jdk_29_method_65_code (2 : Nat) (Option.some Jvm.ClassFile.FieldType.int)).before args0 about1 = true := code_word (m := ⟨4, 1⟩) (meth := k4m1) (c := k4c1) (by decide +kernel) rfl rfl rfl (by decide +kernel)
def codes1 : List Jvm.Cond := [Jvm.Cond.code x code maxLocals ret, Jvm.Cond.code ({ cls := "com/example/physarum/physarum/Proposals", name := "<init>", desc := "(I)V" } : Jvm.MethodName) prog_44_method_1_code (2 : Nat) (Option.none : Option Jvm.ClassFile.FieldType), Jvm.Cond.code ({ cls := "java/lang/Object", name := "<init>", desc := "()V" } : Jvm.MethodName) object_method_1_code (1 : Nat) (Option.none : Option Jvm.ClassFile.FieldType), Jvm.Cond.code ({ cls := "java/util/Arrays", name := "fill", desc := "([II)V" } : Jvm.MethodName) jdk_65_method_103_code (4 : Nat) (Option.none : Option Jvm.ClassFile.FieldType), Jvm.Cond.code ({ cls := "com/example/physarum/physarum/Proposals", name := "add", desc := "(ID)V" } : Jvm.MethodName) prog_44_method_3_code (5 : Nat) (Option.none : Option Jvm.ClassFile.FieldType), Jvm.Cond.code ({ cls := "com/example/physarum/physarum/Proposals", name := "clear", desc := "()V" } : Jvm.MethodName) prog_44_method_2_code (2 : Nat) (Option.none : Option Jvm.ClassFile.FieldType), Jvm.Cond.code ({ cls := "com/example/physarum/physarum/Proposals", name := "arrange", desc := "()V" } : Jvm.MethodName) prog_44_method_4_code (4 : Nat) (Option.none : Option Jvm.ClassFile.FieldType), Jvm.Cond.code ({ cls := "com/example/physarum/physarum/Proposals", name := "count", desc := "(I)I" } : Jvm.MethodName) prog_44_method_7_code (2 : Nat) (Option.some Jvm.ClassFile.FieldType.int), Jvm.Cond.code ({ cls := "com/example/physarum/physarum/Proposals", name := "size", desc := "()I" } : Jvm.MethodName) prog_44_method_5_code (1 : Nat) (Option.some Jvm.ClassFile.FieldType.int), Jvm.Cond.code ({ cls := "com/example/physarum/physarum/Proposals", name := "candidate", desc := "(I)I" } : Jvm.MethodName) prog_44_method_6_code (2 : Nat) (Option.some Jvm.ClassFile.FieldType.int), Jvm.Cond.code ({ cls := "com/example/physarum/physarum/Proposals", name := "highest", desc := "(I)D" } : Jvm.MethodName) prog_44_method_8_code (2 : Nat) (Option.some Jvm.ClassFile.FieldType.double), Jvm.Cond.code ({ cls := "com/example/physarum/physarum/Proposals", name := "confidence", desc := "(II)D" } : Jvm.MethodName) prog_44_method_9_code (7 : Nat) (Option.some Jvm.ClassFile.FieldType.double), Jvm.Cond.code ({ cls := "com/example/physarum/physarum/Proposals", name := "siftDown", desc := "(III)V" } : Jvm.MethodName) prog_44_method_11_code (8 : Nat) (Option.none : Option Jvm.ClassFile.FieldType), Jvm.Cond.code ({ cls := "java/lang/Math", name := "max", desc := "(II)I" } : Jvm.MethodName) jdk_29_method_65_code (2 : Nat) (Option.some Jvm.ClassFile.FieldType.int)]
set_option maxRecDepth 65536 in
theorem codes_eq : words1.filter isCode = codes1 := rfl
theorem w_codes : ∀ c ∈ words1.filter isCode, c.before args0 about1 = true := by
  rw [codes_eq]
  intro c hc
  simp only [codes1, List.mem_cons, List.not_mem_nil, or_false] at hc
  rcases hc with rfl | rfl | rfl | rfl | rfl | rfl | rfl | rfl | rfl | rfl | rfl | rfl | rfl | rfl
  · exact w_c0
  · exact w_c1
  · exact w_c2
  · exact w_c3
  · exact w_c4
  · exact w_c5
  · exact w_c6
  · exact w_c7
  · exact w_c8
  · exact w_c9
  · exact w_c10
  · exact w_c11
  · exact w_c12
  · exact w_c13
set_option maxRecDepth 65536 in
theorem w_t1 : (words1.take 24).all (fun c => isCode c || c.before args0 about1) = true := by decide +kernel
set_option maxRecDepth 65536 in
theorem w_t2 : ((words1.drop 24).take 24).all (fun c => isCode c || c.before args0 about1) = true := by decide +kernel
set_option maxRecDepth 65536 in
theorem w_t3 : (((words1.drop 24).drop 24).take 24).all (fun c => isCode c || c.before args0 about1) = true := by decide +kernel
set_option maxRecDepth 65536 in
theorem w_t4 : (((words1.drop 24).drop 24).drop 24).all (fun c => isCode c || c.before args0 about1) = true := by decide +kernel
theorem w_tables : (allAtoms (Jvm.Cond.code x code maxLocals ret :: tables_1)).before args0 about1 = true := by
  rw [allAtoms_all]
  show words1.all (fun c => c.before args0 about1) = true
  refine all_split ?_ w_codes
  rw [← List.take_append_drop 24 words1, List.all_append, w_t1, ← List.take_append_drop 24 (words1.drop 24), List.all_append, w_t2, ← List.take_append_drop 24 ((words1.drop 24).drop 24), List.all_append, w_t3, w_t4]
  rfl
set_option maxRecDepth 65536 in
theorem w_case : (Jvm.Cond.and given_1 narrow_1).before args0 about1 = true := by decide +kernel
theorem w_applies : (headSpec (Jvm.Cond.code x code maxLocals ret :: tables_1) room_1).applies x e0.platform about1 = true :=
  (Spec.applies_iff w_frames).mpr ⟨w_running, w_runnable, w_alone, w_named, w_hears, w_ripe, w_room, w_tables⟩
theorem atStart : AtStart classFile x code maxLocals ret World_1 tables_1 room_1 Calls_1 rest_1 Pre_1 launch0 p0 e0 about1 theMethod args0 below0 :=
  ⟨lists_1, trivial, launch0.admits_env _ _ _, launch0.least_env, fairChoices_fair.cas, fairChoices_fair.clock, w_frames, w_args, w_heap, w_applies, trivial, trivial, w_case⟩
end start1
theorem witness_1 : WitnessClaimed_1 := ⟨start1.p0, start1.e0, start1.about1, start1.theMethod, start1.args0, start1.below0, start1.atStart⟩
end Jvm.Pilot.@@N@@
