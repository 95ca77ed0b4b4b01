import JvmDerived
import JvmDerived.Pilot.@@N@@Statement
import JvmDerived.Pilot.@@N@@Code
set_option linter.unusedVariables false
set_option linter.unusedSimpArgs false
namespace Jvm.RoadKit
open Sem ClassFile Op Lib Jvm.Stand Jvm.Free Jvm.LawKit
section OwnKit
variable {p : Program} {l : Launch} {e : Env} {R : Room} {s : State} {m : MethodId} {args : Array Value} {below : List Frame} {meth : Method} {c : Code} {T : State} {locs : List Loc} {cells slots : Nat}
def EndsQ (tb : Tables) (e : Env) (below : List Frame) (s : State) (Qv : Option Value → Heap → List Loc → Prop) (rc rs : Nat) (st : State) : Prop :=
  ∃ s₂ o, Steps tb e below st s₂ ∧ s₂.status = .running ∧ Ended s₂ below o ∧ ∃ v L, o = .returned v ∧ Qv v s₂.heap L ∧ FrameEnd s o s₂ L rc rs
theorem EndsQ.go {tb : Tables} {Qv : Option Value → Heap → List Loc → Prop} {rc rs : Nat} {a b : State} (k : ∀ t, Steps tb e below b t → Steps tb e below a t) (h : EndsQ tb e below s Qv rc rs b) : EndsQ tb e below s Qv rc rs a := by
  obtain ⟨s₂, o, h1, h2⟩ := h
  exact ⟨s₂, o, k _ h1, h2⟩
theorem EndsQ.out (X : Stand p l e R s m args below meth c T locs cells slots) (hlk : meth.locks = false) {Qv : Option Value → Heap → List Loc → Prop} {rc rs : Nat} {v : Option Value} {st : State} (hv : meth.sig.returnType = none → v = none)
    (hs : ∀ fs, (∀ (f : JFrame) (acts : List Action), f.method = m → f.locked = none → f.entered = [] → (doReturn e (T.setTop f) acts v).1 = T.setFrames fs) → Steps p.tables e below st (T.setFrames fs))
    (h1 : cells ≤ rc) (h2 : slots ≤ rs) (hq : Qv v T.heap locs) : EndsQ p.tables e below s Qv rc rs st := by
  obtain ⟨fs, hr, hrun, hended, hW, hsame⟩ := X.leave (v := v) hv hlk
  exact ⟨_, _, hs fs hr, hrun, hended, _, _, rfl, hq, ⟨_, rfl⟩, hW, hsame.mono h1 h2⟩
theorem EndsQ.retI (X : Stand p l e R s m args below meth c T locs cells slots) (hx : p.tables.exec = Jvm.exec) (hlk : meth.locks = false) {Qv : Option Value → Heap → List Loc → Prop} {rc rs pc : Nat} {Ls : Array Slot} {z : Int32} {rest : List Value} (hret : meth.sig.returnType = some .int) (hd : decode c.code pc = .ok (.ireturn, 1))
    (h1 : cells ≤ rc) (h2 : slots ≤ rs) (hq : Qv (some (.int z)) T.heap locs) : EndsQ p.tables e below s Qv rc rs (T.setTop (mkF m pc Ls (.int z :: rest))) := by
  refine EndsQ.out X hlk (v := some (.int z)) (fun h => by rw [hret] at h; cases h) (fun fs hr => ?_) h1 h2 hq
  exact retOut X hx hret rfl (Or.inl ⟨rfl, Or.inl rfl, z, rfl⟩) hd hr
theorem EndsQ.retJ (X : Stand p l e R s m args below meth c T locs cells slots) (hx : p.tables.exec = Jvm.exec) (hlk : meth.locks = false) {Qv : Option Value → Heap → List Loc → Prop} {rc rs pc : Nat} {Ls : Array Slot} {z : Int64} {rest : List Value} (hret : meth.sig.returnType = some .long) (hd : decode c.code pc = .ok (.lreturn, 1))
    (h1 : cells ≤ rc) (h2 : slots ≤ rs) (hq : Qv (some (.long z)) T.heap locs) : EndsQ p.tables e below s Qv rc rs (T.setTop (mkF m pc Ls (.long z :: rest))) := by
  refine EndsQ.out X hlk (v := some (.long z)) (fun h => by rw [hret] at h; cases h) (fun fs hr => ?_) h1 h2 hq
  exact retOut X hx hret rfl (Or.inr (Or.inl ⟨rfl, rfl, z, rfl⟩)) hd hr
theorem EndsQ.retA (X : Stand p l e R s m args below meth c T locs cells slots) (hx : p.tables.exec = Jvm.exec) (hlk : meth.locks = false) {Qv : Option Value → Heap → List Loc → Prop} {rc rs pc : Nat} {Ls : Array Slot} {w : Value} {t : FieldType} {rest : List Value} (hret : meth.sig.returnType = some t) (ht : t.isReference = true) (hw : w.isRef = true) (hn : narrow t w = w) (hd : decode c.code pc = .ok (.areturn, 1))
    (h1 : cells ≤ rc) (h2 : slots ≤ rs) (hq : Qv (some w) T.heap locs) : EndsQ p.tables e below s Qv rc rs (T.setTop (mkF m pc Ls (w :: rest))) := by
  refine EndsQ.out X hlk (v := some w) (fun h => by rw [hret] at h; cases h) (fun fs hr => ?_) h1 h2 hq
  exact retOut X hx hret hn (Or.inr (Or.inr (Or.inr (Or.inr ⟨rfl, ht, hw⟩)))) hd hr
theorem EndsQ.retN (X : Stand p l e R s m args below meth c T locs cells slots) (hx : p.tables.exec = Jvm.exec) (hlk : meth.locks = false) {Qv : Option Value → Heap → List Loc → Prop} {rc rs pc : Nat} {Ls : Array Slot} {z : Int32} {t : FieldType} {rest : List Value} (hret : meth.sig.returnType = some t) (ht : t = .boolean ∨ t = .byte ∨ t = .char ∨ t = .short) (hd : decode c.code pc = .ok (.ireturn, 1))
    (h1 : cells ≤ rc) (h2 : slots ≤ rs) (hq : Qv (some (.int (nar t z))) T.heap locs) : EndsQ p.tables e below s Qv rc rs (T.setTop (mkF m pc Ls (.int z :: rest))) := by
  refine EndsQ.out X hlk (v := some (.int (nar t z))) (fun h => by rw [hret] at h; cases h) (fun fs hr => ?_) h1 h2 hq
  exact Jvm.RoadKit.retN X hx hret ht hd hr
theorem EndsQ.retV (X : Stand p l e R s m args below meth c T locs cells slots) (hx : p.tables.exec = Jvm.exec) (hlk : meth.locks = false) {Qv : Option Value → Heap → List Loc → Prop} {rc rs pc : Nat} {Ls : Array Slot} (hret : meth.sig.returnType = none) (hd : decode c.code pc = .ok (.return_, 1))
    (h1 : cells ≤ rc) (h2 : slots ≤ rs) (hq : Qv none T.heap locs) : EndsQ p.tables e below s Qv rc rs (T.setTop (mkF m pc Ls [])) := by
  refine EndsQ.out X hlk (v := none) (fun _ => rfl) (fun fs hr => ?_) h1 h2 hq
  exact X.returnOut hx hret hd hr
end OwnKit
end Jvm.RoadKit
namespace Jvm.Pilot.@@N@@
open Jvm Jvm.ClassFile Sem Op Lib Jvm.Free Jvm.Stand Jvm.LawKit Jvm.RoadKit Bundle Jvm.Pilot.@@N@@.Jvm.D

def own_bit (p w : Int32) : Int64 := if p < (0 : Int32) then (0 : Int64) else if (p / (64 : Int32)) = w then ((1 : Int64) <<< (p &&& 0x3f).toInt64) else (0 : Int64)
theorem own_lo (w : Int32) : ((64 : Int64) * w.toInt64).toInt = 64 * w.toInt := by
  have h1 := c_lmul (64 : Int64) w.toInt64
  have h2 := rng32 w
  have h3 := rng64 ((64 : Int64) * w.toInt64)
  rw [c_i2l, show (64 : Int64).toInt = 64 from rfl] at h1
  omega
theorem own_div (p : Int32) (h : ¬ p < 0) : (p / (64 : Int32)).toInt = p.toInt / 64 ∧ 0 ≤ p.toInt := by
  have h0 : 0 ≤ p.toInt := by
    rw [Int32.lt_iff_toInt_lt] at h
    have h2 : (0 : Int32).toInt = 0 := rfl
    omega
  exact ⟨(c_idiv p 64 64 rfl (by decide)).1 h0, h0⟩
theorem own_A (p w : Int32) (h : p < 0) : own_bit p w = 0 := by unfold own_bit; rw [if_pos h]
theorem own_ne (p w : Int32) (h : ¬ p < 0) (h2 : ¬ (64 * w.toInt ≤ p.toInt ∧ p.toInt < 64 * w.toInt + 64)) : own_bit p w = 0 := by
  unfold own_bit; rw [if_neg h]
  by_cases q : (p / (64 : Int32)) = w
  · exfalso
    obtain ⟨d, d0⟩ := own_div p h
    rw [q] at d
    omega
  · rw [if_neg q]
theorem own_B (p w : Int32) (h : ¬ p < 0) (h2 : p.toInt64 < (64 : Int64) * w.toInt64) : own_bit p w = 0 := by
  rw [Int64.lt_iff_toInt_lt, own_lo, c_i2l] at h2
  exact own_ne p w h (by omega)
theorem own_lo2 (w : Int32) : ((64 : Int64) * w.toInt64 + (64 : Int64)).toInt = 64 * w.toInt + 64 := by
  have h1 := c_ladd ((64 : Int64) * w.toInt64) (64 : Int64)
  have h2 := rng32 w
  have h3 := rng64 ((64 : Int64) * w.toInt64 + (64 : Int64))
  rw [own_lo, show (64 : Int64).toInt = 64 from rfl] at h1
  omega
theorem own_C (p w : Int32) (h : ¬ p < 0) (h2 : ¬ p.toInt64 < (64 : Int64) * w.toInt64 + (64 : Int64)) : own_bit p w = 0 := by
  rw [Int64.lt_iff_toInt_lt, own_lo2, c_i2l] at h2
  exact own_ne p w h (by omega)
theorem own_D (p w : Int32) (h : ¬ p < 0) (h1 : ¬ p.toInt64 < (64 : Int64) * w.toInt64) (h2 : p.toInt64 < (64 : Int64) * w.toInt64 + (64 : Int64)) :
    own_bit p w = ((1 : Int64) <<< (((p.toInt64 - (64 : Int64) * w.toInt64).toInt32) &&& 0x3f).toInt64) := by
  rw [Int64.lt_iff_toInt_lt, own_lo2, c_i2l] at h2
  rw [Int64.lt_iff_toInt_lt, own_lo, c_i2l] at h1
  obtain ⟨d, d0⟩ := own_div p h
  have q : (p / (64 : Int32)) = w := Int32.toInt_inj.mp (by omega)
  unfold own_bit
  rw [if_neg h, if_pos q]
  have e : p &&& 0x3f = ((p.toInt64 - (64 : Int64) * w.toInt64).toInt32) &&& 0x3f := by
    refine Int32.toInt_inj.mp ?_
    rw [c_mask p 0x3f 6 (by decide) rfl, c_mask _ 0x3f 6 (by decide) rfl]
    have a1 := c_l2i (p.toInt64 - (64 : Int64) * w.toInt64)
    have a2 := c_lsub p.toInt64 ((64 : Int64) * w.toInt64)
    rw [own_lo, c_i2l] at a2
    omega
  rw [e]
theorem d1_0 : decode prog_33_method_6_code 0 = .ok (.iload_n 0, 1) := by decide +kernel
theorem d1_1 : decode prog_33_method_6_code 1 = .ok (.ifCond .lt 17, 3) := by decide +kernel
theorem d1_4 : decode prog_33_method_6_code 4 = .ok (.iload_n 0, 1) := by decide +kernel
theorem d1_5 : decode prog_33_method_6_code 5 = .ok (.bipush 64, 2) := by decide +kernel
theorem d1_7 : decode prog_33_method_6_code 7 = .ok (.idiv, 1) := by decide +kernel
theorem d1_8 : decode prog_33_method_6_code 8 = .ok (.iload_n 1, 1) := by decide +kernel
theorem d1_9 : decode prog_33_method_6_code 9 = .ok (.if_icmp .ne 9, 3) := by decide +kernel
theorem d1_12 : decode prog_33_method_6_code 12 = .ok (.lconst 1, 1) := by decide +kernel
theorem d1_13 : decode prog_33_method_6_code 13 = .ok (.iload_n 0, 1) := by decide +kernel
theorem d1_14 : decode prog_33_method_6_code 14 = .ok (.lshl, 1) := by decide +kernel
theorem d1_15 : decode prog_33_method_6_code 15 = .ok (.goto 4, 3) := by decide +kernel
theorem d1_18 : decode prog_33_method_6_code 18 = .ok (.lconst 0, 1) := by decide +kernel
theorem d1_19 : decode prog_33_method_6_code 19 = .ok (.lreturn, 1) := by decide +kernel
theorem pn_1 : plainName "com/example/physarum/physarum/NeighbourBits" = true := by first | (simp [plainName, overriddenIn]; done) | decide +kernel
theorem pn_0 : plainName "com/example/physarum/physarum/NeighbourBitsBitPinLaw" = true := by first | (simp [plainName, overriddenIn]; done) | decide +kernel
theorem pd_0 : parseMethodDescriptor "(II)J" = some ⟨[.int, .int], some .long⟩ := by decide +kernel
theorem ef_1 (m : MethodId) (x0 : Int32) (x1 : Int32) : entryFrame m #[(.int x0), (.int x1)] 2 = mkF m 0 #[.val (.int x0), .val (.int x1)] [] := by first | (simp [entryFrame, mkF, argsToLocals, Value.category]; done) | rfl
def Q1 (Z : State) (p1 : Int32) (p2 : Int32) (h0 : Heap) (n0 : Nat) (v : Option Value) (h : Heap) (L : List Loc) : Prop := v = some (.long (own_bit p1 p2)) ∧ Fr n0 L ∧ h = h0
set_option maxRecDepth 65536 in
set_option maxHeartbeats 40000000 in
theorem rm1 (l : Launch) (Z : State) (a0 : Array Value) (hw : ∀ d ∈ tables_1, d.before a0 Z = true) (ws : List Jvm.Cond) (p1 : Int32) (p2 : Int32) (h0 : Heap) (n0 : Nat) (Z0 : n0 ≤ h0.size) :
    MetFree l (⟨"com/example/physarum/physarum/NeighbourBits", "bit", "(II)J"⟩ : MethodName) (head1 (Jvm.Cond.code (⟨"com/example/physarum/physarum/NeighbourBits", "bit", "(II)J"⟩ : MethodName) prog_33_method_6_code 2 (some .long) :: ws) ({ frames := 0, cells := 0, slots := 0, locals := 0 } : Room)) (fun a U => a = #[(.int p1), (.int p2)] ∧ Z.Warmed39 U.vm ∧ U.heap = h0) (fun _ _ _ _ _ => True) (fun _ U o U' => ∃ v L, o = .returned v ∧ Q1 Z p1 p2 h0 n0 v U'.heap L ∧ FrameEnd U o U' L ({ frames := 0, cells := 0, slots := 0, locals := 0 } : Room).cells ({ frames := 0, cells := 0, slots := 0, locals := 0 } : Room).slots) := by
  refine MetFree.of_bodySF (plainFor_of_name pn_1) hisR ?_
  intro p e s m args below meth c s₁ Bd hml0 hP hK
  obtain ⟨rfl, hZ, hh⟩ := hP
  have hx := Bd.exec
  have hby := Bd.bytes
  have hml : c.maxLocals = 2 := hml0
  have hown : s.vm.findClass "com/example/physarum/physarum/NeighbourBits" = some m.cls := findClass_of_methodNamed Bd.named
  have hnm := (name_of_methodNamed Bd.named Bd.method).1
  have X0 : Stand p l e ({ frames := 0, cells := 0, slots := 0, locals := 0 } : Room) s m #[(.int p1), (.int p2)] below meth c s₁ [] 0 0 := Stand.of_body Bd
  have e0 : s₁.heap = h0 := by rw [← hh, Bd.state]; rfl
  have N0 := Fr.nil n0
  show EndsQ p.tables e below s (fun v h L => Q1 Z p1 p2 h0 n0 v h L) ({ frames := 0, cells := 0, slots := 0, locals := 0 } : Room).cells ({ frames := 0, cells := 0, slots := 0, locals := 0 } : Room).slots _
  refine EndsQ.go (b := s₁.setTop (mkF m 0 #[.val (.int p1), .val (.int p2)] [])) (fun t k => castTop (ef_1 m p1 p2) k) ?_
  refine EndsQ.go (b := s₁.setTop (mkF m 1 #[.val (.int p1), .val (.int p2)] [(.int p1)])) (fun t k => ?_) ?_
  · show Steps p.tables e below (s₁.setTop (mkF m 0 #[.val (.int p1), .val (.int p2)] [])) _
    refine XS.iloadN X0.here hx rfl (hb hby d1_0) rfl ?_
    show Steps p.tables e below (s₁.setTop (mkF m 1 #[.val (.int p1), .val (.int p2)] [(.int p1)])) _
    exact k
  by_cases hc1_101 : p1 < (0 : Int32)
  · refine EndsQ.go (b := s₁.setTop (mkF m 18 #[.val (.int p1), .val (.int p2)] [])) (fun t k => ?_) ?_
    · show Steps p.tables e below (s₁.setTop (mkF m 1 #[.val (.int p1), .val (.int p2)] [(.int p1)])) _
      refine XS.ifYes X0.here hx rfl (pc0 := 1) (pc' := 18) rfl (hb hby d1_1) rfl ((if0 _ _).trans (tlt hc1_101).1) (by decide) (by decide) ?_
      show Steps p.tables e below (s₁.setTop (mkF m 18 #[.val (.int p1), .val (.int p2)] [])) _
      exact k
    refine EndsQ.go (b := s₁.setTop (mkF m 19 #[.val (.int p1), .val (.int p2)] [(.long (0 : Int64))])) (fun t k => ?_) ?_
    · show Steps p.tables e below (s₁.setTop (mkF m 18 #[.val (.int p1), .val (.int p2)] [])) _
      refine XS.lconst X0.here hx rfl (hb hby d1_18) ?_
      show Steps p.tables e below (s₁.setTop (mkF m 19 #[.val (.int p1), .val (.int p2)] [(.long (0 : Int64))])) _
      exact k
    refine EndsQ.retJ X0 hx Bd.notSynchronized Bd.returns (hb hby d1_19) (by decide) (by decide) ?_
    show Q1 Z p1 p2 h0 n0 (some (.long (0 : Int64))) s₁.heap _
    rw [e0]
    exact ⟨by unfold own_bit; rw [if_pos hc1_101], N0, rfl⟩
  · refine EndsQ.go (b := s₁.setTop (mkF m 4 #[.val (.int p1), .val (.int p2)] [])) (fun t k => ?_) ?_
    · show Steps p.tables e below (s₁.setTop (mkF m 1 #[.val (.int p1), .val (.int p2)] [(.int p1)])) _
      refine XS.ifNo X0.here hx rfl (hb hby d1_1) rfl ((if0 _ _).trans (flt hc1_101).1) ?_
      show Steps p.tables e below (s₁.setTop (mkF m 4 #[.val (.int p1), .val (.int p2)] [])) _
      exact k
    refine EndsQ.go (b := s₁.setTop (mkF m 9 #[.val (.int p1), .val (.int p2)] [(.int p2), (.int (p1 / (64 : Int32)))])) (fun t k => ?_) ?_
    · show Steps p.tables e below (s₁.setTop (mkF m 4 #[.val (.int p1), .val (.int p2)] [])) _
      refine XS.iloadN X0.here hx rfl (hb hby d1_4) rfl ?_
      show Steps p.tables e below (s₁.setTop (mkF m 5 #[.val (.int p1), .val (.int p2)] [(.int p1)])) _
      refine XS.bipush X0.here hx rfl (hb hby d1_5) ?_
      show Steps p.tables e below (s₁.setTop (mkF m 7 #[.val (.int p1), .val (.int p2)] [(.int (64 : Int32)), (.int p1)])) _
      refine XS.idiv X0.here hx rfl (hb hby d1_7) rfl (by decide) ?_
      show Steps p.tables e below (s₁.setTop (mkF m 8 #[.val (.int p1), .val (.int p2)] [(.int (p1 / (64 : Int32)))])) _
      refine XS.iloadN X0.here hx rfl (hb hby d1_8) rfl ?_
      show Steps p.tables e below (s₁.setTop (mkF m 9 #[.val (.int p1), .val (.int p2)] [(.int p2), (.int (p1 / (64 : Int32)))])) _
      exact k
    by_cases hc9_102 : (p1 / (64 : Int32)) = p2
    · refine EndsQ.go (b := s₁.setTop (mkF m 12 #[.val (.int p1), .val (.int p2)] [])) (fun t k => ?_) ?_
      · show Steps p.tables e below (s₁.setTop (mkF m 9 #[.val (.int p1), .val (.int p2)] [(.int p2), (.int (p1 / (64 : Int32)))])) _
        refine XS.icmpNo X0.here hx rfl (hb hby d1_9) rfl (teq hc9_102).2 ?_
        show Steps p.tables e below (s₁.setTop (mkF m 12 #[.val (.int p1), .val (.int p2)] [])) _
        exact k
      refine EndsQ.go (b := s₁.setTop (mkF m 19 #[.val (.int p1), .val (.int p2)] [(.long ((1 : Int64) <<< (p1 &&& 0x3f).toInt64))])) (fun t k => ?_) ?_
      · show Steps p.tables e below (s₁.setTop (mkF m 12 #[.val (.int p1), .val (.int p2)] [])) _
        refine XS.lconst X0.here hx rfl (hb hby d1_12) ?_
        show Steps p.tables e below (s₁.setTop (mkF m 13 #[.val (.int p1), .val (.int p2)] [(.long (1 : Int64))])) _
        refine XS.iloadN X0.here hx rfl (hb hby d1_13) rfl ?_
        show Steps p.tables e below (s₁.setTop (mkF m 14 #[.val (.int p1), .val (.int p2)] [(.int p1), (.long (1 : Int64))])) _
        refine XS.lshl X0.here hx rfl (hb hby d1_14) rfl ?_
        show Steps p.tables e below (s₁.setTop (mkF m 15 #[.val (.int p1), .val (.int p2)] [(.long ((1 : Int64) <<< (p1 &&& 0x3f).toInt64))])) _
        refine XS.goto X0.here hx rfl (pc0 := 15) (pc' := 19) rfl (hb hby d1_15) (by decide) (by decide) ?_
        show Steps p.tables e below (s₁.setTop (mkF m 19 #[.val (.int p1), .val (.int p2)] [(.long ((1 : Int64) <<< (p1 &&& 0x3f).toInt64))])) _
        exact k
      refine EndsQ.retJ X0 hx Bd.notSynchronized Bd.returns (hb hby d1_19) (by decide) (by decide) ?_
      show Q1 Z p1 p2 h0 n0 (some (.long ((1 : Int64) <<< (p1 &&& 0x3f).toInt64))) s₁.heap _
      rw [e0]
      exact ⟨by unfold own_bit; rw [if_neg hc1_101, if_pos hc9_102], N0, rfl⟩
    · refine EndsQ.go (b := s₁.setTop (mkF m 18 #[.val (.int p1), .val (.int p2)] [])) (fun t k => ?_) ?_
      · show Steps p.tables e below (s₁.setTop (mkF m 9 #[.val (.int p1), .val (.int p2)] [(.int p2), (.int (p1 / (64 : Int32)))])) _
        refine XS.icmpYes X0.here hx rfl (pc0 := 9) (pc' := 18) rfl (hb hby d1_9) rfl (feq hc9_102).2 (by decide) (by decide) ?_
        show Steps p.tables e below (s₁.setTop (mkF m 18 #[.val (.int p1), .val (.int p2)] [])) _
        exact k
      refine EndsQ.go (b := s₁.setTop (mkF m 19 #[.val (.int p1), .val (.int p2)] [(.long (0 : Int64))])) (fun t k => ?_) ?_
      · show Steps p.tables e below (s₁.setTop (mkF m 18 #[.val (.int p1), .val (.int p2)] [])) _
        refine XS.lconst X0.here hx rfl (hb hby d1_18) ?_
        show Steps p.tables e below (s₁.setTop (mkF m 19 #[.val (.int p1), .val (.int p2)] [(.long (0 : Int64))])) _
        exact k
      refine EndsQ.retJ X0 hx Bd.notSynchronized Bd.returns (hb hby d1_19) (by decide) (by decide) ?_
      show Q1 Z p1 p2 h0 n0 (some (.long (0 : Int64))) s₁.heap _
      rw [e0]
      exact ⟨by unfold own_bit; rw [if_neg hc1_101, if_neg hc9_102], N0, rfl⟩
theorem ef_0 (m : MethodId) (x0 : Int32) (x1 : Int32) (x2 : Int32) : entryFrame m #[(.int x0), (.int x1), (.int x2)] maxLocals = mkF m 0 #[.val (.int x0), .val (.int x1), .val (.int x2), .unset, .unset, .unset, .unset, .unset, .unset, .unset, .unset, .unset, .unset] [] := by first | (simp [entryFrame, mkF, argsToLocals, Value.category, maxLocals]; done) | rfl
def Q0 (Z : State) (p1 : Int32) (p2 : Int32) (p3 : Int32) (h0 : Heap) (n0 : Nat) (v : Option Value) (h : Heap) (L : List Loc) : Prop := v = some (.int 1) ∧ Fr n0 L
set_option maxRecDepth 65536 in
set_option maxHeartbeats 40000000 in
theorem rm0 (l : Launch) (Z : State) (a0 : Array Value) (hw : ∀ d ∈ tables_1, d.before a0 Z = true) (ws : List Jvm.Cond) (p1 : Int32) (p2 : Int32) (p3 : Int32) (h0 : Heap) (n0 : Nat) (Z0 : n0 ≤ h0.size) :
    MetFree l x (head1 (Jvm.Cond.code x code maxLocals ret :: ws) room_1) (fun a U => a = #[(.int p1), (.int p2), (.int p3)] ∧ Z.Warmed39 U.vm ∧ U.heap = h0) (fun _ _ _ _ _ => True) (fun _ U o U' => ∃ v L, o = .returned v ∧ Q0 Z p1 p2 p3 h0 n0 v U'.heap L ∧ FrameEnd U o U' L 0 0) := by
  refine MetFree.of_bodySF (plainFor_of_name pn_0) hisR ?_
  intro p e s m args below meth c s₁ Bd hml0 hP hK
  obtain ⟨rfl, hZ, hh⟩ := hP
  have hx := Bd.exec
  have hby := Bd.bytes
  have hml : c.maxLocals = 13 := hml0
  have hown : s.vm.findClass "com/example/physarum/physarum/NeighbourBitsBitPinLaw" = some m.cls := findClass_of_methodNamed Bd.named
  have hnm := (name_of_methodNamed Bd.named Bd.method).1
  have X0 : Stand p l e room_1 s m #[(.int p1), (.int p2), (.int p3)] below meth c s₁ [] 0 0 := Stand.of_body Bd
  have e0 : s₁.heap = h0 := by rw [← hh, Bd.state]; rfl
  have N0 := Fr.nil n0
  show EndsQ p.tables e below s (fun v h L => Q0 Z p1 p2 p3 h0 n0 v h L) 0 0 _
  refine EndsQ.go (b := s₁.setTop (mkF m 0 #[.val (.int p1), .val (.int p2), .val (.int p3), .unset, .unset, .unset, .unset, .unset, .unset, .unset, .unset, .unset, .unset] [])) (fun t k => castTop (ef_0 m p1 p2 p3) k) ?_
  refine EndsQ.go (b := s₁.setTop (mkF m 3 #[.val (.int p1), .val (.int p2), .val (.int p3), .unset, .unset, .unset, .unset, .unset, .unset, .unset, .unset, .unset, .unset] [(.int (p3 &&& (3 : Int32)))])) (fun t k => ?_) ?_
  · show Steps p.tables e below (s₁.setTop (mkF m 0 #[.val (.int p1), .val (.int p2), .val (.int p3), .unset, .unset, .unset, .unset, .unset, .unset, .unset, .unset, .unset, .unset] [])) _
    refine XS.iloadN X0.here hx rfl (hb hby at_0) rfl ?_
    show Steps p.tables e below (s₁.setTop (mkF m 1 #[.val (.int p1), .val (.int p2), .val (.int p3), .unset, .unset, .unset, .unset, .unset, .unset, .unset, .unset, .unset, .unset] [(.int p3)])) _
    refine XS.iconst X0.here hx rfl (hb hby at_1) ?_
    show Steps p.tables e below (s₁.setTop (mkF m 2 #[.val (.int p1), .val (.int p2), .val (.int p3), .unset, .unset, .unset, .unset, .unset, .unset, .unset, .unset, .unset, .unset] [(.int (3 : Int32)), (.int p3)])) _
    refine XS.iand X0.here hx rfl (hb hby at_2) rfl ?_
    show Steps p.tables e below (s₁.setTop (mkF m 3 #[.val (.int p1), .val (.int p2), .val (.int p3), .unset, .unset, .unset, .unset, .unset, .unset, .unset, .unset, .unset, .unset] [(.int (p3 &&& (3 : Int32)))])) _
    exact k
  refine EndsQ.go (b := s₁.setTop (mkF m 24 #[.val (.int p1), .val (.int p2), .val (.int p3), .val (.int (if (p3 &&& (3 : Int32)) = (0 : Int32) then p2 else ((p1 >>> ((6 : Int32) &&& 31)) + ((((p3.toUInt32 >>> ((2 : Int32) &&& 31).toUInt32).toInt32) % (3 : Int32)) - (1 : Int32))))), .unset, .unset, .unset, .unset, .unset, .unset, .unset, .unset, .unset] [])) (fun t k => ?_) ?_
  · by_cases hc3_101 : (p3 &&& (3 : Int32)) = (0 : Int32)
    · refine XS.ifNo X0.here hx rfl (hb hby at_3) rfl ((if0 _ _).trans (teq hc3_101).2) ?_
      show Steps p.tables e below (s₁.setTop (mkF m 6 #[.val (.int p1), .val (.int p2), .val (.int p3), .unset, .unset, .unset, .unset, .unset, .unset, .unset, .unset, .unset, .unset] [])) _
      refine XS.iloadN X0.here hx rfl (hb hby at_6) rfl ?_
      show Steps p.tables e below (s₁.setTop (mkF m 7 #[.val (.int p1), .val (.int p2), .val (.int p3), .unset, .unset, .unset, .unset, .unset, .unset, .unset, .unset, .unset, .unset] [(.int p2)])) _
      refine XS.istoreN X0.here hx rfl (hb hby at_7) rfl (l' := #[.val (.int p1), .val (.int p2), .val (.int p3), .val (.int p2), .unset, .unset, .unset, .unset, .unset, .unset, .unset, .unset, .unset]) rfl ?_
      show Steps p.tables e below (s₁.setTop (mkF m 8 #[.val (.int p1), .val (.int p2), .val (.int p3), .val (.int p2), .unset, .unset, .unset, .unset, .unset, .unset, .unset, .unset, .unset] [])) _
      refine XS.goto X0.here hx rfl (pc0 := 8) (pc' := 24) rfl (hb hby at_8) (by decide) (by decide) ?_
      show Steps p.tables e below (s₁.setTop (mkF m 24 #[.val (.int p1), .val (.int p2), .val (.int p3), .val (.int p2), .unset, .unset, .unset, .unset, .unset, .unset, .unset, .unset, .unset] [])) _
      have j0 : (if (p3 &&& (3 : Int32)) = (0 : Int32) then p2 else ((p1 >>> ((6 : Int32) &&& 31)) + ((((p3.toUInt32 >>> ((2 : Int32) &&& 31).toUInt32).toInt32) % (3 : Int32)) - (1 : Int32)))) = p2 := by rw [if_pos hc3_101]
      rw [j0] at k
      exact k
    · refine XS.ifYes X0.here hx rfl (pc0 := 3) (pc' := 11) rfl (hb hby at_3) rfl ((if0 _ _).trans (feq hc3_101).2) (by decide) (by decide) ?_
      show Steps p.tables e below (s₁.setTop (mkF m 11 #[.val (.int p1), .val (.int p2), .val (.int p3), .unset, .unset, .unset, .unset, .unset, .unset, .unset, .unset, .unset, .unset] [])) _
      refine XS.iloadN X0.here hx rfl (hb hby at_11) rfl ?_
      show Steps p.tables e below (s₁.setTop (mkF m 12 #[.val (.int p1), .val (.int p2), .val (.int p3), .unset, .unset, .unset, .unset, .unset, .unset, .unset, .unset, .unset, .unset] [(.int p1)])) _
      refine XS.bipush X0.here hx rfl (hb hby at_12) ?_
      show Steps p.tables e below (s₁.setTop (mkF m 14 #[.val (.int p1), .val (.int p2), .val (.int p3), .unset, .unset, .unset, .unset, .unset, .unset, .unset, .unset, .unset, .unset] [(.int (6 : Int32)), (.int p1)])) _
      refine XS.ishr X0.here hx rfl (hb hby at_14) rfl ?_
      show Steps p.tables e below (s₁.setTop (mkF m 15 #[.val (.int p1), .val (.int p2), .val (.int p3), .unset, .unset, .unset, .unset, .unset, .unset, .unset, .unset, .unset, .unset] [(.int (p1 >>> ((6 : Int32) &&& 31)))])) _
      refine XS.iloadN X0.here hx rfl (hb hby at_15) rfl ?_
      show Steps p.tables e below (s₁.setTop (mkF m 16 #[.val (.int p1), .val (.int p2), .val (.int p3), .unset, .unset, .unset, .unset, .unset, .unset, .unset, .unset, .unset, .unset] [(.int p3), (.int (p1 >>> ((6 : Int32) &&& 31)))])) _
      refine XS.iconst X0.here hx rfl (hb hby at_16) ?_
      show Steps p.tables e below (s₁.setTop (mkF m 17 #[.val (.int p1), .val (.int p2), .val (.int p3), .unset, .unset, .unset, .unset, .unset, .unset, .unset, .unset, .unset, .unset] [(.int (2 : Int32)), (.int p3), (.int (p1 >>> ((6 : Int32) &&& 31)))])) _
      refine XS.iushr X0.here hx rfl (hb hby at_17) rfl ?_
      show Steps p.tables e below (s₁.setTop (mkF m 18 #[.val (.int p1), .val (.int p2), .val (.int p3), .unset, .unset, .unset, .unset, .unset, .unset, .unset, .unset, .unset, .unset] [(.int ((p3.toUInt32 >>> ((2 : Int32) &&& 31).toUInt32).toInt32)), (.int (p1 >>> ((6 : Int32) &&& 31)))])) _
      refine XS.iconst X0.here hx rfl (hb hby at_18) ?_
      show Steps p.tables e below (s₁.setTop (mkF m 19 #[.val (.int p1), .val (.int p2), .val (.int p3), .unset, .unset, .unset, .unset, .unset, .unset, .unset, .unset, .unset, .unset] [(.int (3 : Int32)), (.int ((p3.toUInt32 >>> ((2 : Int32) &&& 31).toUInt32).toInt32)), (.int (p1 >>> ((6 : Int32) &&& 31)))])) _
      refine iremM X0 hx rfl (hb hby at_19) rfl (by decide) ?_
      show Steps p.tables e below (s₁.setTop (mkF m 20 #[.val (.int p1), .val (.int p2), .val (.int p3), .unset, .unset, .unset, .unset, .unset, .unset, .unset, .unset, .unset, .unset] [(.int (((p3.toUInt32 >>> ((2 : Int32) &&& 31).toUInt32).toInt32) % (3 : Int32))), (.int (p1 >>> ((6 : Int32) &&& 31)))])) _
      refine XS.iconst X0.here hx rfl (hb hby at_20) ?_
      show Steps p.tables e below (s₁.setTop (mkF m 21 #[.val (.int p1), .val (.int p2), .val (.int p3), .unset, .unset, .unset, .unset, .unset, .unset, .unset, .unset, .unset, .unset] [(.int (1 : Int32)), (.int (((p3.toUInt32 >>> ((2 : Int32) &&& 31).toUInt32).toInt32) % (3 : Int32))), (.int (p1 >>> ((6 : Int32) &&& 31)))])) _
      refine XS.isub X0.here hx rfl (hb hby at_21) rfl ?_
      show Steps p.tables e below (s₁.setTop (mkF m 22 #[.val (.int p1), .val (.int p2), .val (.int p3), .unset, .unset, .unset, .unset, .unset, .unset, .unset, .unset, .unset, .unset] [(.int ((((p3.toUInt32 >>> ((2 : Int32) &&& 31).toUInt32).toInt32) % (3 : Int32)) - (1 : Int32))), (.int (p1 >>> ((6 : Int32) &&& 31)))])) _
      refine XS.iadd X0.here hx rfl (hb hby at_22) rfl ?_
      show Steps p.tables e below (s₁.setTop (mkF m 23 #[.val (.int p1), .val (.int p2), .val (.int p3), .unset, .unset, .unset, .unset, .unset, .unset, .unset, .unset, .unset, .unset] [(.int ((p1 >>> ((6 : Int32) &&& 31)) + ((((p3.toUInt32 >>> ((2 : Int32) &&& 31).toUInt32).toInt32) % (3 : Int32)) - (1 : Int32))))])) _
      refine XS.istoreN X0.here hx rfl (hb hby at_23) rfl (l' := #[.val (.int p1), .val (.int p2), .val (.int p3), .val (.int ((p1 >>> ((6 : Int32) &&& 31)) + ((((p3.toUInt32 >>> ((2 : Int32) &&& 31).toUInt32).toInt32) % (3 : Int32)) - (1 : Int32)))), .unset, .unset, .unset, .unset, .unset, .unset, .unset, .unset, .unset]) rfl ?_
      show Steps p.tables e below (s₁.setTop (mkF m 24 #[.val (.int p1), .val (.int p2), .val (.int p3), .val (.int ((p1 >>> ((6 : Int32) &&& 31)) + ((((p3.toUInt32 >>> ((2 : Int32) &&& 31).toUInt32).toInt32) % (3 : Int32)) - (1 : Int32)))), .unset, .unset, .unset, .unset, .unset, .unset, .unset, .unset, .unset] [])) _
      have j0 : (if (p3 &&& (3 : Int32)) = (0 : Int32) then p2 else ((p1 >>> ((6 : Int32) &&& 31)) + ((((p3.toUInt32 >>> ((2 : Int32) &&& 31).toUInt32).toInt32) % (3 : Int32)) - (1 : Int32)))) = ((p1 >>> ((6 : Int32) &&& 31)) + ((((p3.toUInt32 >>> ((2 : Int32) &&& 31).toUInt32).toInt32) % (3 : Int32)) - (1 : Int32))) := by rw [if_neg hc3_101]
      rw [j0] at k
      exact k
  generalize hv_w : (if (p3 &&& (3 : Int32)) = (0 : Int32) then p2 else ((p1 >>> ((6 : Int32) &&& 31)) + ((((p3.toUInt32 >>> ((2 : Int32) &&& 31).toUInt32).toInt32) % (3 : Int32)) - (1 : Int32)))) = w
  show EndsQ _ _ _ _ _ _ _ (s₁.setTop (mkF m 24 #[.val (.int p1), .val (.int p2), .val (.int p3), .val (.int w), .unset, .unset, .unset, .unset, .unset, .unset, .unset, .unset, .unset] []))
  refine EndsQ.go (b := s₁.setTop (mkF m 26 #[.val (.int p1), .val (.int p2), .val (.int p3), .val (.int w), .unset, .unset, .unset, .unset, .unset, .unset, .unset, .unset, .unset] [(.int w), (.int p1)])) (fun t k => ?_) ?_
  · show Steps p.tables e below (s₁.setTop (mkF m 24 #[.val (.int p1), .val (.int p2), .val (.int p3), .val (.int w), .unset, .unset, .unset, .unset, .unset, .unset, .unset, .unset, .unset] [])) _
    refine XS.iloadN X0.here hx rfl (hb hby at_24) rfl ?_
    show Steps p.tables e below (s₁.setTop (mkF m 25 #[.val (.int p1), .val (.int p2), .val (.int p3), .val (.int w), .unset, .unset, .unset, .unset, .unset, .unset, .unset, .unset, .unset] [(.int p1)])) _
    refine XS.iloadN X0.here hx rfl (hb hby at_25) rfl ?_
    show Steps p.tables e below (s₁.setTop (mkF m 26 #[.val (.int p1), .val (.int p2), .val (.int p3), .val (.int w), .unset, .unset, .unset, .unset, .unset, .unset, .unset, .unset, .unset] [(.int w), (.int p1)])) _
    exact k
  obtain ⟨_, _, ⟨T102, L102, kk102, nn102⟩, -, X102, ⟨Lc102, hQ102, l102, y102, z102⟩, st102⟩ := Jvm.LawKit.callS X0 hx (y := (⟨"com/example/physarum/physarum/NeighbourBits", "bit", "(II)J"⟩ : MethodName)) hown (mvT hZ (hw _ (List.mem_of_getElem? (i := 0) rfl))) (mvT hZ (hw _ (List.mem_of_getElem? (i := 1) rfl))) (mvT hZ (hw _ (List.mem_of_getElem? (i := 2) rfl))) (mvT hZ (hw _ (List.mem_of_getElem? (i := 3) rfl))) (by decide) (backOf (W := 0) (rm1 l Z a0 hw [] p1 w h0 n0 Z0) hZ (hw _ (List.mem_of_getElem? (i := 3) rfl)) (hw _ (List.mem_of_getElem? (i := 2) rfl)) (by decide) (by decide)) (g := (mkF m 26 #[.val (.int p1), .val (.int p2), .val (.int p3), .val (.int w), .unset, .unset, .unset, .unset, .unset, .unset, .unset, .unset, .unset] [(.int w), (.int p1)])) rfl (by rw [hml]; rfl) (argsL := [(.int p1), (.int w)]) (rest := []) (lenOf pd_0 rfl) rfl (by show 2 * 0 + _ ≤ _; exact Nat.le_of_eq rfl) (hb hby at_26) (fun _ _ => ⟨rfl, e0, (by decide : 0 + 0 ≤ _), (by decide : 0 + 0 ≤ _)⟩)
  dsimp only [Pt.U, Pt.locs, Pt.cells, Pt.slots] at X102 l102 y102 z102 st102 hQ102
  subst l102 y102 z102
  obtain ⟨rfl, Nq102, eq102⟩ := hQ102
  have N102 := Fr.app N0 Nq102
  refine EndsQ.go st102 ?_
  show EndsQ _ _ _ _ _ _ _ (T102.setTop (mkF m 29 #[.val (.int p1), .val (.int p2), .val (.int p3), .val (.int w), .unset, .unset, .unset, .unset, .unset, .unset, .unset, .unset, .unset] [(.long (own_bit p1 w))]))
  refine EndsQ.go (b := T102.setTop (mkF m 44 #[.val (.int p1), .val (.int p2), .val (.int p3), .val (.int w), .val (.long (own_bit p1 w)), .second, .val (.long ((64 : Int64) * (w.toInt64))), .second, .val (.long (p1.toInt64)), .second, .unset, .unset, .unset] [(.int p1)])) (fun t k => ?_) ?_
  · show Steps p.tables e below (T102.setTop (mkF m 29 #[.val (.int p1), .val (.int p2), .val (.int p3), .val (.int w), .unset, .unset, .unset, .unset, .unset, .unset, .unset, .unset, .unset] [(.long (own_bit p1 w))])) _
    refine XS.lstore X102.here hx rfl (hb hby at_29) rfl (l' := #[.val (.int p1), .val (.int p2), .val (.int p3), .val (.int w), .val (.long (own_bit p1 w)), .second, .unset, .unset, .unset, .unset, .unset, .unset, .unset]) rfl ?_
    show Steps p.tables e below (T102.setTop (mkF m 31 #[.val (.int p1), .val (.int p2), .val (.int p3), .val (.int w), .val (.long (own_bit p1 w)), .second, .unset, .unset, .unset, .unset, .unset, .unset, .unset] [])) _
    refine X102.ldc2Long hx hown (mvT hZ (hw _ (List.mem_of_getElem? (i := 4) rfl))) (g := (mkF m 31 #[.val (.int p1), .val (.int p2), .val (.int p3), .val (.int w), .val (.long (own_bit p1 w)), .second, .unset, .unset, .unset, .unset, .unset, .unset, .unset] [])) rfl (hb hby at_31) _ ?_
    show Steps p.tables e below (T102.setTop (mkF m 34 #[.val (.int p1), .val (.int p2), .val (.int p3), .val (.int w), .val (.long (own_bit p1 w)), .second, .unset, .unset, .unset, .unset, .unset, .unset, .unset] [(.long (64 : Int64))])) _
    refine XS.iloadN X102.here hx rfl (hb hby at_34) rfl ?_
    show Steps p.tables e below (T102.setTop (mkF m 35 #[.val (.int p1), .val (.int p2), .val (.int p3), .val (.int w), .val (.long (own_bit p1 w)), .second, .unset, .unset, .unset, .unset, .unset, .unset, .unset] [(.int w), (.long (64 : Int64))])) _
    refine XS.i2l X102.here hx rfl (hb hby at_35) rfl ?_
    show Steps p.tables e below (T102.setTop (mkF m 36 #[.val (.int p1), .val (.int p2), .val (.int p3), .val (.int w), .val (.long (own_bit p1 w)), .second, .unset, .unset, .unset, .unset, .unset, .unset, .unset] [(.long (w.toInt64)), (.long (64 : Int64))])) _
    refine XS.lmul X102.here hx rfl (hb hby at_36) rfl ?_
    show Steps p.tables e below (T102.setTop (mkF m 37 #[.val (.int p1), .val (.int p2), .val (.int p3), .val (.int w), .val (.long (own_bit p1 w)), .second, .unset, .unset, .unset, .unset, .unset, .unset, .unset] [(.long ((64 : Int64) * (w.toInt64)))])) _
    refine XS.lstore X102.here hx rfl (hb hby at_37) rfl (l' := #[.val (.int p1), .val (.int p2), .val (.int p3), .val (.int w), .val (.long (own_bit p1 w)), .second, .val (.long ((64 : Int64) * (w.toInt64))), .second, .unset, .unset, .unset, .unset, .unset]) rfl ?_
    show Steps p.tables e below (T102.setTop (mkF m 39 #[.val (.int p1), .val (.int p2), .val (.int p3), .val (.int w), .val (.long (own_bit p1 w)), .second, .val (.long ((64 : Int64) * (w.toInt64))), .second, .unset, .unset, .unset, .unset, .unset] [])) _
    refine XS.iloadN X102.here hx rfl (hb hby at_39) rfl ?_
    show Steps p.tables e below (T102.setTop (mkF m 40 #[.val (.int p1), .val (.int p2), .val (.int p3), .val (.int w), .val (.long (own_bit p1 w)), .second, .val (.long ((64 : Int64) * (w.toInt64))), .second, .unset, .unset, .unset, .unset, .unset] [(.int p1)])) _
    refine XS.i2l X102.here hx rfl (hb hby at_40) rfl ?_
    show Steps p.tables e below (T102.setTop (mkF m 41 #[.val (.int p1), .val (.int p2), .val (.int p3), .val (.int w), .val (.long (own_bit p1 w)), .second, .val (.long ((64 : Int64) * (w.toInt64))), .second, .unset, .unset, .unset, .unset, .unset] [(.long (p1.toInt64))])) _
    refine XS.lstore X102.here hx rfl (hb hby at_41) rfl (l' := #[.val (.int p1), .val (.int p2), .val (.int p3), .val (.int w), .val (.long (own_bit p1 w)), .second, .val (.long ((64 : Int64) * (w.toInt64))), .second, .val (.long (p1.toInt64)), .second, .unset, .unset, .unset]) rfl ?_
    show Steps p.tables e below (T102.setTop (mkF m 43 #[.val (.int p1), .val (.int p2), .val (.int p3), .val (.int w), .val (.long (own_bit p1 w)), .second, .val (.long ((64 : Int64) * (w.toInt64))), .second, .val (.long (p1.toInt64)), .second, .unset, .unset, .unset] [])) _
    refine XS.iloadN X102.here hx rfl (hb hby at_43) rfl ?_
    show Steps p.tables e below (T102.setTop (mkF m 44 #[.val (.int p1), .val (.int p2), .val (.int p3), .val (.int w), .val (.long (own_bit p1 w)), .second, .val (.long ((64 : Int64) * (w.toInt64))), .second, .val (.long (p1.toInt64)), .second, .unset, .unset, .unset] [(.int p1)])) _
    exact k
  by_cases hc44_103 : p1 < (0 : Int32)
  · refine EndsQ.go (b := T102.setTop (mkF m 71 #[.val (.int p1), .val (.int p2), .val (.int p3), .val (.int w), .val (.long (own_bit p1 w)), .second, .val (.long ((64 : Int64) * (w.toInt64))), .second, .val (.long (p1.toInt64)), .second, .unset, .unset, .unset] [])) (fun t k => ?_) ?_
    · show Steps p.tables e below (T102.setTop (mkF m 44 #[.val (.int p1), .val (.int p2), .val (.int p3), .val (.int w), .val (.long (own_bit p1 w)), .second, .val (.long ((64 : Int64) * (w.toInt64))), .second, .val (.long (p1.toInt64)), .second, .unset, .unset, .unset] [(.int p1)])) _
      refine XS.ifYes X102.here hx rfl (pc0 := 44) (pc' := 71) rfl (hb hby at_44) rfl ((if0 _ _).trans (tlt hc44_103).1) (by decide) (by decide) ?_
      show Steps p.tables e below (T102.setTop (mkF m 71 #[.val (.int p1), .val (.int p2), .val (.int p3), .val (.int w), .val (.long (own_bit p1 w)), .second, .val (.long ((64 : Int64) * (w.toInt64))), .second, .val (.long (p1.toInt64)), .second, .unset, .unset, .unset] [])) _
      exact k
    refine EndsQ.go (b := T102.setTop (mkF m 106 #[.val (.int p1), .val (.int p2), .val (.int p3), .val (.int w), .val (.long (own_bit p1 w)), .second, .val (.long ((64 : Int64) * (w.toInt64))), .second, .val (.long (p1.toInt64)), .second, .val (.int (0 : Int32)), .val (.long (0 : Int64)), .second] [(.int (1 : Int32))])) (fun t k => ?_) ?_
    · show Steps p.tables e below (T102.setTop (mkF m 71 #[.val (.int p1), .val (.int p2), .val (.int p3), .val (.int w), .val (.long (own_bit p1 w)), .second, .val (.long ((64 : Int64) * (w.toInt64))), .second, .val (.long (p1.toInt64)), .second, .unset, .unset, .unset] [])) _
      refine XS.iconst X102.here hx rfl (hb hby at_71) ?_
      show Steps p.tables e below (T102.setTop (mkF m 72 #[.val (.int p1), .val (.int p2), .val (.int p3), .val (.int w), .val (.long (own_bit p1 w)), .second, .val (.long ((64 : Int64) * (w.toInt64))), .second, .val (.long (p1.toInt64)), .second, .unset, .unset, .unset] [(.int (0 : Int32))])) _
      refine XS.istore X102.here hx rfl (hb hby at_72) rfl (l' := #[.val (.int p1), .val (.int p2), .val (.int p3), .val (.int w), .val (.long (own_bit p1 w)), .second, .val (.long ((64 : Int64) * (w.toInt64))), .second, .val (.long (p1.toInt64)), .second, .val (.int (0 : Int32)), .unset, .unset]) rfl ?_
      show Steps p.tables e below (T102.setTop (mkF m 74 #[.val (.int p1), .val (.int p2), .val (.int p3), .val (.int w), .val (.long (own_bit p1 w)), .second, .val (.long ((64 : Int64) * (w.toInt64))), .second, .val (.long (p1.toInt64)), .second, .val (.int (0 : Int32)), .unset, .unset] [])) _
      refine XS.iload X102.here hx rfl (hb hby at_74) rfl ?_
      show Steps p.tables e below (T102.setTop (mkF m 76 #[.val (.int p1), .val (.int p2), .val (.int p3), .val (.int w), .val (.long (own_bit p1 w)), .second, .val (.long ((64 : Int64) * (w.toInt64))), .second, .val (.long (p1.toInt64)), .second, .val (.int (0 : Int32)), .unset, .unset] [(.int (0 : Int32))])) _
      refine XS.ifYes X102.here hx rfl (pc0 := 76) (pc' := 90) rfl (hb hby at_76) rfl ((if0 _ _).trans (teq (by decide)).1) (by decide) (by decide) ?_
      show Steps p.tables e below (T102.setTop (mkF m 90 #[.val (.int p1), .val (.int p2), .val (.int p3), .val (.int w), .val (.long (own_bit p1 w)), .second, .val (.long ((64 : Int64) * (w.toInt64))), .second, .val (.long (p1.toInt64)), .second, .val (.int (0 : Int32)), .unset, .unset] [])) _
      refine XS.lconst X102.here hx rfl (hb hby at_90) ?_
      show Steps p.tables e below (T102.setTop (mkF m 91 #[.val (.int p1), .val (.int p2), .val (.int p3), .val (.int w), .val (.long (own_bit p1 w)), .second, .val (.long ((64 : Int64) * (w.toInt64))), .second, .val (.long (p1.toInt64)), .second, .val (.int (0 : Int32)), .unset, .unset] [(.long (0 : Int64))])) _
      refine XS.lstore X102.here hx rfl (hb hby at_91) rfl (l' := #[.val (.int p1), .val (.int p2), .val (.int p3), .val (.int w), .val (.long (own_bit p1 w)), .second, .val (.long ((64 : Int64) * (w.toInt64))), .second, .val (.long (p1.toInt64)), .second, .val (.int (0 : Int32)), .val (.long (0 : Int64)), .second]) rfl ?_
      show Steps p.tables e below (T102.setTop (mkF m 93 #[.val (.int p1), .val (.int p2), .val (.int p3), .val (.int w), .val (.long (own_bit p1 w)), .second, .val (.long ((64 : Int64) * (w.toInt64))), .second, .val (.long (p1.toInt64)), .second, .val (.int (0 : Int32)), .val (.long (0 : Int64)), .second] [])) _
      refine XS.lload X102.here hx rfl (hb hby at_93) rfl ?_
      show Steps p.tables e below (T102.setTop (mkF m 95 #[.val (.int p1), .val (.int p2), .val (.int p3), .val (.int w), .val (.long (own_bit p1 w)), .second, .val (.long ((64 : Int64) * (w.toInt64))), .second, .val (.long (p1.toInt64)), .second, .val (.int (0 : Int32)), .val (.long (0 : Int64)), .second] [(.long (own_bit p1 w))])) _
      refine XS.lload X102.here hx rfl (hb hby at_95) rfl ?_
      show Steps p.tables e below (T102.setTop (mkF m 97 #[.val (.int p1), .val (.int p2), .val (.int p3), .val (.int w), .val (.long (own_bit p1 w)), .second, .val (.long ((64 : Int64) * (w.toInt64))), .second, .val (.long (p1.toInt64)), .second, .val (.int (0 : Int32)), .val (.long (0 : Int64)), .second] [(.long (0 : Int64)), (.long (own_bit p1 w))])) _
      refine XS.lcmp X102.here hx rfl (hb hby at_97) rfl ?_
      show Steps p.tables e below (T102.setTop (mkF m 98 #[.val (.int p1), .val (.int p2), .val (.int p3), .val (.int w), .val (.long (own_bit p1 w)), .second, .val (.long ((64 : Int64) * (w.toInt64))), .second, .val (.long (p1.toInt64)), .second, .val (.int (0 : Int32)), .val (.long (0 : Int64)), .second] [(.int (lcmpW (own_bit p1 w) (0 : Int64)))])) _
      refine XS.ifNo X102.here hx rfl (hb hby at_98) rfl ((if0 _ _).trans (teq ((lw_eq (own_bit p1 w) (0 : Int64)).mpr (own_A p1 w hc44_103))).2) ?_
      show Steps p.tables e below (T102.setTop (mkF m 101 #[.val (.int p1), .val (.int p2), .val (.int p3), .val (.int w), .val (.long (own_bit p1 w)), .second, .val (.long ((64 : Int64) * (w.toInt64))), .second, .val (.long (p1.toInt64)), .second, .val (.int (0 : Int32)), .val (.long (0 : Int64)), .second] [])) _
      refine XS.iconst X102.here hx rfl (hb hby at_101) ?_
      show Steps p.tables e below (T102.setTop (mkF m 102 #[.val (.int p1), .val (.int p2), .val (.int p3), .val (.int w), .val (.long (own_bit p1 w)), .second, .val (.long ((64 : Int64) * (w.toInt64))), .second, .val (.long (p1.toInt64)), .second, .val (.int (0 : Int32)), .val (.long (0 : Int64)), .second] [(.int (1 : Int32))])) _
      refine XS.goto X102.here hx rfl (pc0 := 102) (pc' := 106) rfl (hb hby at_102) (by decide) (by decide) ?_
      show Steps p.tables e below (T102.setTop (mkF m 106 #[.val (.int p1), .val (.int p2), .val (.int p3), .val (.int w), .val (.long (own_bit p1 w)), .second, .val (.long ((64 : Int64) * (w.toInt64))), .second, .val (.long (p1.toInt64)), .second, .val (.int (0 : Int32)), .val (.long (0 : Int64)), .second] [(.int (1 : Int32))])) _
      exact k
    refine EndsQ.retN X102 hx Bd.notSynchronized (t := .boolean) Bd.returns (by simp) (hb hby at_106) (by decide) (by decide) ?_
    show Q0 Z p1 p2 p3 h0 n0 (some (.int (nar .boolean (1 : Int32)))) T102.heap _
    rw [eq102]
    exact ⟨rfl, N102⟩
  · refine EndsQ.go (b := T102.setTop (mkF m 47 #[.val (.int p1), .val (.int p2), .val (.int p3), .val (.int w), .val (.long (own_bit p1 w)), .second, .val (.long ((64 : Int64) * (w.toInt64))), .second, .val (.long (p1.toInt64)), .second, .unset, .unset, .unset] [])) (fun t k => ?_) ?_
    · show Steps p.tables e below (T102.setTop (mkF m 44 #[.val (.int p1), .val (.int p2), .val (.int p3), .val (.int w), .val (.long (own_bit p1 w)), .second, .val (.long ((64 : Int64) * (w.toInt64))), .second, .val (.long (p1.toInt64)), .second, .unset, .unset, .unset] [(.int p1)])) _
      refine XS.ifNo X102.here hx rfl (hb hby at_44) rfl ((if0 _ _).trans (flt hc44_103).1) ?_
      show Steps p.tables e below (T102.setTop (mkF m 47 #[.val (.int p1), .val (.int p2), .val (.int p3), .val (.int w), .val (.long (own_bit p1 w)), .second, .val (.long ((64 : Int64) * (w.toInt64))), .second, .val (.long (p1.toInt64)), .second, .unset, .unset, .unset] [])) _
      exact k
    refine EndsQ.go (b := T102.setTop (mkF m 52 #[.val (.int p1), .val (.int p2), .val (.int p3), .val (.int w), .val (.long (own_bit p1 w)), .second, .val (.long ((64 : Int64) * (w.toInt64))), .second, .val (.long (p1.toInt64)), .second, .unset, .unset, .unset] [(.int (lcmpW ((64 : Int64) * (w.toInt64)) (p1.toInt64)))])) (fun t k => ?_) ?_
    · show Steps p.tables e below (T102.setTop (mkF m 47 #[.val (.int p1), .val (.int p2), .val (.int p3), .val (.int w), .val (.long (own_bit p1 w)), .second, .val (.long ((64 : Int64) * (w.toInt64))), .second, .val (.long (p1.toInt64)), .second, .unset, .unset, .unset] [])) _
      refine XS.lload X102.here hx rfl (hb hby at_47) rfl ?_
      show Steps p.tables e below (T102.setTop (mkF m 49 #[.val (.int p1), .val (.int p2), .val (.int p3), .val (.int w), .val (.long (own_bit p1 w)), .second, .val (.long ((64 : Int64) * (w.toInt64))), .second, .val (.long (p1.toInt64)), .second, .unset, .unset, .unset] [(.long ((64 : Int64) * (w.toInt64)))])) _
      refine XS.lload X102.here hx rfl (hb hby at_49) rfl ?_
      show Steps p.tables e below (T102.setTop (mkF m 51 #[.val (.int p1), .val (.int p2), .val (.int p3), .val (.int w), .val (.long (own_bit p1 w)), .second, .val (.long ((64 : Int64) * (w.toInt64))), .second, .val (.long (p1.toInt64)), .second, .unset, .unset, .unset] [(.long (p1.toInt64)), (.long ((64 : Int64) * (w.toInt64)))])) _
      refine XS.lcmp X102.here hx rfl (hb hby at_51) rfl ?_
      show Steps p.tables e below (T102.setTop (mkF m 52 #[.val (.int p1), .val (.int p2), .val (.int p3), .val (.int w), .val (.long (own_bit p1 w)), .second, .val (.long ((64 : Int64) * (w.toInt64))), .second, .val (.long (p1.toInt64)), .second, .unset, .unset, .unset] [(.int (lcmpW ((64 : Int64) * (w.toInt64)) (p1.toInt64)))])) _
      exact k
    by_cases hc52_104 : (p1.toInt64) < ((64 : Int64) * (w.toInt64))
    · refine EndsQ.go (b := T102.setTop (mkF m 71 #[.val (.int p1), .val (.int p2), .val (.int p3), .val (.int w), .val (.long (own_bit p1 w)), .second, .val (.long ((64 : Int64) * (w.toInt64))), .second, .val (.long (p1.toInt64)), .second, .unset, .unset, .unset] [])) (fun t k => ?_) ?_
      · show Steps p.tables e below (T102.setTop (mkF m 52 #[.val (.int p1), .val (.int p2), .val (.int p3), .val (.int w), .val (.long (own_bit p1 w)), .second, .val (.long ((64 : Int64) * (w.toInt64))), .second, .val (.long (p1.toInt64)), .second, .unset, .unset, .unset] [(.int (lcmpW ((64 : Int64) * (w.toInt64)) (p1.toInt64)))])) _
        refine XS.ifYes X102.here hx rfl (pc0 := 52) (pc' := 71) rfl (hb hby at_52) rfl ((if0 _ _).trans (tlt ((lw_gt ((64 : Int64) * (w.toInt64)) (p1.toInt64)).mpr hc52_104)).2.2.1) (by decide) (by decide) ?_
        show Steps p.tables e below (T102.setTop (mkF m 71 #[.val (.int p1), .val (.int p2), .val (.int p3), .val (.int w), .val (.long (own_bit p1 w)), .second, .val (.long ((64 : Int64) * (w.toInt64))), .second, .val (.long (p1.toInt64)), .second, .unset, .unset, .unset] [])) _
        exact k
      refine EndsQ.go (b := T102.setTop (mkF m 106 #[.val (.int p1), .val (.int p2), .val (.int p3), .val (.int w), .val (.long (own_bit p1 w)), .second, .val (.long ((64 : Int64) * (w.toInt64))), .second, .val (.long (p1.toInt64)), .second, .val (.int (0 : Int32)), .val (.long (0 : Int64)), .second] [(.int (1 : Int32))])) (fun t k => ?_) ?_
      · show Steps p.tables e below (T102.setTop (mkF m 71 #[.val (.int p1), .val (.int p2), .val (.int p3), .val (.int w), .val (.long (own_bit p1 w)), .second, .val (.long ((64 : Int64) * (w.toInt64))), .second, .val (.long (p1.toInt64)), .second, .unset, .unset, .unset] [])) _
        refine XS.iconst X102.here hx rfl (hb hby at_71) ?_
        show Steps p.tables e below (T102.setTop (mkF m 72 #[.val (.int p1), .val (.int p2), .val (.int p3), .val (.int w), .val (.long (own_bit p1 w)), .second, .val (.long ((64 : Int64) * (w.toInt64))), .second, .val (.long (p1.toInt64)), .second, .unset, .unset, .unset] [(.int (0 : Int32))])) _
        refine XS.istore X102.here hx rfl (hb hby at_72) rfl (l' := #[.val (.int p1), .val (.int p2), .val (.int p3), .val (.int w), .val (.long (own_bit p1 w)), .second, .val (.long ((64 : Int64) * (w.toInt64))), .second, .val (.long (p1.toInt64)), .second, .val (.int (0 : Int32)), .unset, .unset]) rfl ?_
        show Steps p.tables e below (T102.setTop (mkF m 74 #[.val (.int p1), .val (.int p2), .val (.int p3), .val (.int w), .val (.long (own_bit p1 w)), .second, .val (.long ((64 : Int64) * (w.toInt64))), .second, .val (.long (p1.toInt64)), .second, .val (.int (0 : Int32)), .unset, .unset] [])) _
        refine XS.iload X102.here hx rfl (hb hby at_74) rfl ?_
        show Steps p.tables e below (T102.setTop (mkF m 76 #[.val (.int p1), .val (.int p2), .val (.int p3), .val (.int w), .val (.long (own_bit p1 w)), .second, .val (.long ((64 : Int64) * (w.toInt64))), .second, .val (.long (p1.toInt64)), .second, .val (.int (0 : Int32)), .unset, .unset] [(.int (0 : Int32))])) _
        refine XS.ifYes X102.here hx rfl (pc0 := 76) (pc' := 90) rfl (hb hby at_76) rfl ((if0 _ _).trans (teq (by decide)).1) (by decide) (by decide) ?_
        show Steps p.tables e below (T102.setTop (mkF m 90 #[.val (.int p1), .val (.int p2), .val (.int p3), .val (.int w), .val (.long (own_bit p1 w)), .second, .val (.long ((64 : Int64) * (w.toInt64))), .second, .val (.long (p1.toInt64)), .second, .val (.int (0 : Int32)), .unset, .unset] [])) _
        refine XS.lconst X102.here hx rfl (hb hby at_90) ?_
        show Steps p.tables e below (T102.setTop (mkF m 91 #[.val (.int p1), .val (.int p2), .val (.int p3), .val (.int w), .val (.long (own_bit p1 w)), .second, .val (.long ((64 : Int64) * (w.toInt64))), .second, .val (.long (p1.toInt64)), .second, .val (.int (0 : Int32)), .unset, .unset] [(.long (0 : Int64))])) _
        refine XS.lstore X102.here hx rfl (hb hby at_91) rfl (l' := #[.val (.int p1), .val (.int p2), .val (.int p3), .val (.int w), .val (.long (own_bit p1 w)), .second, .val (.long ((64 : Int64) * (w.toInt64))), .second, .val (.long (p1.toInt64)), .second, .val (.int (0 : Int32)), .val (.long (0 : Int64)), .second]) rfl ?_
        show Steps p.tables e below (T102.setTop (mkF m 93 #[.val (.int p1), .val (.int p2), .val (.int p3), .val (.int w), .val (.long (own_bit p1 w)), .second, .val (.long ((64 : Int64) * (w.toInt64))), .second, .val (.long (p1.toInt64)), .second, .val (.int (0 : Int32)), .val (.long (0 : Int64)), .second] [])) _
        refine XS.lload X102.here hx rfl (hb hby at_93) rfl ?_
        show Steps p.tables e below (T102.setTop (mkF m 95 #[.val (.int p1), .val (.int p2), .val (.int p3), .val (.int w), .val (.long (own_bit p1 w)), .second, .val (.long ((64 : Int64) * (w.toInt64))), .second, .val (.long (p1.toInt64)), .second, .val (.int (0 : Int32)), .val (.long (0 : Int64)), .second] [(.long (own_bit p1 w))])) _
        refine XS.lload X102.here hx rfl (hb hby at_95) rfl ?_
        show Steps p.tables e below (T102.setTop (mkF m 97 #[.val (.int p1), .val (.int p2), .val (.int p3), .val (.int w), .val (.long (own_bit p1 w)), .second, .val (.long ((64 : Int64) * (w.toInt64))), .second, .val (.long (p1.toInt64)), .second, .val (.int (0 : Int32)), .val (.long (0 : Int64)), .second] [(.long (0 : Int64)), (.long (own_bit p1 w))])) _
        refine XS.lcmp X102.here hx rfl (hb hby at_97) rfl ?_
        show Steps p.tables e below (T102.setTop (mkF m 98 #[.val (.int p1), .val (.int p2), .val (.int p3), .val (.int w), .val (.long (own_bit p1 w)), .second, .val (.long ((64 : Int64) * (w.toInt64))), .second, .val (.long (p1.toInt64)), .second, .val (.int (0 : Int32)), .val (.long (0 : Int64)), .second] [(.int (lcmpW (own_bit p1 w) (0 : Int64)))])) _
        refine XS.ifNo X102.here hx rfl (hb hby at_98) rfl ((if0 _ _).trans (teq ((lw_eq (own_bit p1 w) (0 : Int64)).mpr (own_B p1 w hc44_103 hc52_104))).2) ?_
        show Steps p.tables e below (T102.setTop (mkF m 101 #[.val (.int p1), .val (.int p2), .val (.int p3), .val (.int w), .val (.long (own_bit p1 w)), .second, .val (.long ((64 : Int64) * (w.toInt64))), .second, .val (.long (p1.toInt64)), .second, .val (.int (0 : Int32)), .val (.long (0 : Int64)), .second] [])) _
        refine XS.iconst X102.here hx rfl (hb hby at_101) ?_
        show Steps p.tables e below (T102.setTop (mkF m 102 #[.val (.int p1), .val (.int p2), .val (.int p3), .val (.int w), .val (.long (own_bit p1 w)), .second, .val (.long ((64 : Int64) * (w.toInt64))), .second, .val (.long (p1.toInt64)), .second, .val (.int (0 : Int32)), .val (.long (0 : Int64)), .second] [(.int (1 : Int32))])) _
        refine XS.goto X102.here hx rfl (pc0 := 102) (pc' := 106) rfl (hb hby at_102) (by decide) (by decide) ?_
        show Steps p.tables e below (T102.setTop (mkF m 106 #[.val (.int p1), .val (.int p2), .val (.int p3), .val (.int w), .val (.long (own_bit p1 w)), .second, .val (.long ((64 : Int64) * (w.toInt64))), .second, .val (.long (p1.toInt64)), .second, .val (.int (0 : Int32)), .val (.long (0 : Int64)), .second] [(.int (1 : Int32))])) _
        exact k
      refine EndsQ.retN X102 hx Bd.notSynchronized (t := .boolean) Bd.returns (by simp) (hb hby at_106) (by decide) (by decide) ?_
      show Q0 Z p1 p2 p3 h0 n0 (some (.int (nar .boolean (1 : Int32)))) T102.heap _
      rw [eq102]
      exact ⟨rfl, N102⟩
    · refine EndsQ.go (b := T102.setTop (mkF m 55 #[.val (.int p1), .val (.int p2), .val (.int p3), .val (.int w), .val (.long (own_bit p1 w)), .second, .val (.long ((64 : Int64) * (w.toInt64))), .second, .val (.long (p1.toInt64)), .second, .unset, .unset, .unset] [])) (fun t k => ?_) ?_
      · show Steps p.tables e below (T102.setTop (mkF m 52 #[.val (.int p1), .val (.int p2), .val (.int p3), .val (.int w), .val (.long (own_bit p1 w)), .second, .val (.long ((64 : Int64) * (w.toInt64))), .second, .val (.long (p1.toInt64)), .second, .unset, .unset, .unset] [(.int (lcmpW ((64 : Int64) * (w.toInt64)) (p1.toInt64)))])) _
        refine XS.ifNo X102.here hx rfl (hb hby at_52) rfl ((if0 _ _).trans (flt (fun q => hc52_104 ((lw_gt ((64 : Int64) * (w.toInt64)) (p1.toInt64)).mp q))).2.2.1) ?_
        show Steps p.tables e below (T102.setTop (mkF m 55 #[.val (.int p1), .val (.int p2), .val (.int p3), .val (.int w), .val (.long (own_bit p1 w)), .second, .val (.long ((64 : Int64) * (w.toInt64))), .second, .val (.long (p1.toInt64)), .second, .unset, .unset, .unset] [])) _
        exact k
      refine EndsQ.go (b := T102.setTop (mkF m 64 #[.val (.int p1), .val (.int p2), .val (.int p3), .val (.int w), .val (.long (own_bit p1 w)), .second, .val (.long ((64 : Int64) * (w.toInt64))), .second, .val (.long (p1.toInt64)), .second, .unset, .unset, .unset] [(.int (lcmpW (p1.toInt64) (((64 : Int64) * (w.toInt64)) + (64 : Int64))))])) (fun t k => ?_) ?_
      · show Steps p.tables e below (T102.setTop (mkF m 55 #[.val (.int p1), .val (.int p2), .val (.int p3), .val (.int w), .val (.long (own_bit p1 w)), .second, .val (.long ((64 : Int64) * (w.toInt64))), .second, .val (.long (p1.toInt64)), .second, .unset, .unset, .unset] [])) _
        refine XS.lload X102.here hx rfl (hb hby at_55) rfl ?_
        show Steps p.tables e below (T102.setTop (mkF m 57 #[.val (.int p1), .val (.int p2), .val (.int p3), .val (.int w), .val (.long (own_bit p1 w)), .second, .val (.long ((64 : Int64) * (w.toInt64))), .second, .val (.long (p1.toInt64)), .second, .unset, .unset, .unset] [(.long (p1.toInt64))])) _
        refine XS.lload X102.here hx rfl (hb hby at_57) rfl ?_
        show Steps p.tables e below (T102.setTop (mkF m 59 #[.val (.int p1), .val (.int p2), .val (.int p3), .val (.int w), .val (.long (own_bit p1 w)), .second, .val (.long ((64 : Int64) * (w.toInt64))), .second, .val (.long (p1.toInt64)), .second, .unset, .unset, .unset] [(.long ((64 : Int64) * (w.toInt64))), (.long (p1.toInt64))])) _
        refine X102.ldc2Long hx hown (mvT hZ (hw _ (List.mem_of_getElem? (i := 4) rfl))) (g := (mkF m 59 #[.val (.int p1), .val (.int p2), .val (.int p3), .val (.int w), .val (.long (own_bit p1 w)), .second, .val (.long ((64 : Int64) * (w.toInt64))), .second, .val (.long (p1.toInt64)), .second, .unset, .unset, .unset] [(.long ((64 : Int64) * (w.toInt64))), (.long (p1.toInt64))])) rfl (hb hby at_59) _ ?_
        show Steps p.tables e below (T102.setTop (mkF m 62 #[.val (.int p1), .val (.int p2), .val (.int p3), .val (.int w), .val (.long (own_bit p1 w)), .second, .val (.long ((64 : Int64) * (w.toInt64))), .second, .val (.long (p1.toInt64)), .second, .unset, .unset, .unset] [(.long (64 : Int64)), (.long ((64 : Int64) * (w.toInt64))), (.long (p1.toInt64))])) _
        refine XS.ladd X102.here hx rfl (hb hby at_62) rfl ?_
        show Steps p.tables e below (T102.setTop (mkF m 63 #[.val (.int p1), .val (.int p2), .val (.int p3), .val (.int w), .val (.long (own_bit p1 w)), .second, .val (.long ((64 : Int64) * (w.toInt64))), .second, .val (.long (p1.toInt64)), .second, .unset, .unset, .unset] [(.long (((64 : Int64) * (w.toInt64)) + (64 : Int64))), (.long (p1.toInt64))])) _
        refine XS.lcmp X102.here hx rfl (hb hby at_63) rfl ?_
        show Steps p.tables e below (T102.setTop (mkF m 64 #[.val (.int p1), .val (.int p2), .val (.int p3), .val (.int w), .val (.long (own_bit p1 w)), .second, .val (.long ((64 : Int64) * (w.toInt64))), .second, .val (.long (p1.toInt64)), .second, .unset, .unset, .unset] [(.int (lcmpW (p1.toInt64) (((64 : Int64) * (w.toInt64)) + (64 : Int64))))])) _
        exact k
      by_cases hc64_105 : (p1.toInt64) < (((64 : Int64) * (w.toInt64)) + (64 : Int64))
      · refine EndsQ.go (b := T102.setTop (mkF m 67 #[.val (.int p1), .val (.int p2), .val (.int p3), .val (.int w), .val (.long (own_bit p1 w)), .second, .val (.long ((64 : Int64) * (w.toInt64))), .second, .val (.long (p1.toInt64)), .second, .unset, .unset, .unset] [])) (fun t k => ?_) ?_
        · show Steps p.tables e below (T102.setTop (mkF m 64 #[.val (.int p1), .val (.int p2), .val (.int p3), .val (.int w), .val (.long (own_bit p1 w)), .second, .val (.long ((64 : Int64) * (w.toInt64))), .second, .val (.long (p1.toInt64)), .second, .unset, .unset, .unset] [(.int (lcmpW (p1.toInt64) (((64 : Int64) * (w.toInt64)) + (64 : Int64))))])) _
          refine XS.ifNo X102.here hx rfl (hb hby at_64) rfl ((if0 _ _).trans (tlt ((lw_lt (p1.toInt64) (((64 : Int64) * (w.toInt64)) + (64 : Int64))).mpr hc64_105)).2.1) ?_
          show Steps p.tables e below (T102.setTop (mkF m 67 #[.val (.int p1), .val (.int p2), .val (.int p3), .val (.int w), .val (.long (own_bit p1 w)), .second, .val (.long ((64 : Int64) * (w.toInt64))), .second, .val (.long (p1.toInt64)), .second, .unset, .unset, .unset] [])) _
          exact k
        refine EndsQ.go (b := T102.setTop (mkF m 106 #[.val (.int p1), .val (.int p2), .val (.int p3), .val (.int w), .val (.long (own_bit p1 w)), .second, .val (.long ((64 : Int64) * (w.toInt64))), .second, .val (.long (p1.toInt64)), .second, .val (.int (1 : Int32)), .val (.long ((1 : Int64) <<< ((((p1.toInt64) - ((64 : Int64) * (w.toInt64))).toInt32) &&& 0x3f).toInt64)), .second] [(.int (1 : Int32))])) (fun t k => ?_) ?_
        · show Steps p.tables e below (T102.setTop (mkF m 67 #[.val (.int p1), .val (.int p2), .val (.int p3), .val (.int w), .val (.long (own_bit p1 w)), .second, .val (.long ((64 : Int64) * (w.toInt64))), .second, .val (.long (p1.toInt64)), .second, .unset, .unset, .unset] [])) _
          refine XS.iconst X102.here hx rfl (hb hby at_67) ?_
          show Steps p.tables e below (T102.setTop (mkF m 68 #[.val (.int p1), .val (.int p2), .val (.int p3), .val (.int w), .val (.long (own_bit p1 w)), .second, .val (.long ((64 : Int64) * (w.toInt64))), .second, .val (.long (p1.toInt64)), .second, .unset, .unset, .unset] [(.int (1 : Int32))])) _
          refine XS.goto X102.here hx rfl (pc0 := 68) (pc' := 72) rfl (hb hby at_68) (by decide) (by decide) ?_
          show Steps p.tables e below (T102.setTop (mkF m 72 #[.val (.int p1), .val (.int p2), .val (.int p3), .val (.int w), .val (.long (own_bit p1 w)), .second, .val (.long ((64 : Int64) * (w.toInt64))), .second, .val (.long (p1.toInt64)), .second, .unset, .unset, .unset] [(.int (1 : Int32))])) _
          refine XS.istore X102.here hx rfl (hb hby at_72) rfl (l' := #[.val (.int p1), .val (.int p2), .val (.int p3), .val (.int w), .val (.long (own_bit p1 w)), .second, .val (.long ((64 : Int64) * (w.toInt64))), .second, .val (.long (p1.toInt64)), .second, .val (.int (1 : Int32)), .unset, .unset]) rfl ?_
          show Steps p.tables e below (T102.setTop (mkF m 74 #[.val (.int p1), .val (.int p2), .val (.int p3), .val (.int w), .val (.long (own_bit p1 w)), .second, .val (.long ((64 : Int64) * (w.toInt64))), .second, .val (.long (p1.toInt64)), .second, .val (.int (1 : Int32)), .unset, .unset] [])) _
          refine XS.iload X102.here hx rfl (hb hby at_74) rfl ?_
          show Steps p.tables e below (T102.setTop (mkF m 76 #[.val (.int p1), .val (.int p2), .val (.int p3), .val (.int w), .val (.long (own_bit p1 w)), .second, .val (.long ((64 : Int64) * (w.toInt64))), .second, .val (.long (p1.toInt64)), .second, .val (.int (1 : Int32)), .unset, .unset] [(.int (1 : Int32))])) _
          refine XS.ifNo X102.here hx rfl (hb hby at_76) rfl ((if0 _ _).trans (feq (by decide)).1) ?_
          show Steps p.tables e below (T102.setTop (mkF m 79 #[.val (.int p1), .val (.int p2), .val (.int p3), .val (.int w), .val (.long (own_bit p1 w)), .second, .val (.long ((64 : Int64) * (w.toInt64))), .second, .val (.long (p1.toInt64)), .second, .val (.int (1 : Int32)), .unset, .unset] [])) _
          refine XS.lconst X102.here hx rfl (hb hby at_79) ?_
          show Steps p.tables e below (T102.setTop (mkF m 80 #[.val (.int p1), .val (.int p2), .val (.int p3), .val (.int w), .val (.long (own_bit p1 w)), .second, .val (.long ((64 : Int64) * (w.toInt64))), .second, .val (.long (p1.toInt64)), .second, .val (.int (1 : Int32)), .unset, .unset] [(.long (1 : Int64))])) _
          refine XS.lload X102.here hx rfl (hb hby at_80) rfl ?_
          show Steps p.tables e below (T102.setTop (mkF m 82 #[.val (.int p1), .val (.int p2), .val (.int p3), .val (.int w), .val (.long (own_bit p1 w)), .second, .val (.long ((64 : Int64) * (w.toInt64))), .second, .val (.long (p1.toInt64)), .second, .val (.int (1 : Int32)), .unset, .unset] [(.long (p1.toInt64)), (.long (1 : Int64))])) _
          refine XS.lload X102.here hx rfl (hb hby at_82) rfl ?_
          show Steps p.tables e below (T102.setTop (mkF m 84 #[.val (.int p1), .val (.int p2), .val (.int p3), .val (.int w), .val (.long (own_bit p1 w)), .second, .val (.long ((64 : Int64) * (w.toInt64))), .second, .val (.long (p1.toInt64)), .second, .val (.int (1 : Int32)), .unset, .unset] [(.long ((64 : Int64) * (w.toInt64))), (.long (p1.toInt64)), (.long (1 : Int64))])) _
          refine XS.lsub X102.here hx rfl (hb hby at_84) rfl ?_
          show Steps p.tables e below (T102.setTop (mkF m 85 #[.val (.int p1), .val (.int p2), .val (.int p3), .val (.int w), .val (.long (own_bit p1 w)), .second, .val (.long ((64 : Int64) * (w.toInt64))), .second, .val (.long (p1.toInt64)), .second, .val (.int (1 : Int32)), .unset, .unset] [(.long ((p1.toInt64) - ((64 : Int64) * (w.toInt64)))), (.long (1 : Int64))])) _
          refine XS.l2i X102.here hx rfl (hb hby at_85) rfl ?_
          show Steps p.tables e below (T102.setTop (mkF m 86 #[.val (.int p1), .val (.int p2), .val (.int p3), .val (.int w), .val (.long (own_bit p1 w)), .second, .val (.long ((64 : Int64) * (w.toInt64))), .second, .val (.long (p1.toInt64)), .second, .val (.int (1 : Int32)), .unset, .unset] [(.int (((p1.toInt64) - ((64 : Int64) * (w.toInt64))).toInt32)), (.long (1 : Int64))])) _
          refine XS.lshl X102.here hx rfl (hb hby at_86) rfl ?_
          show Steps p.tables e below (T102.setTop (mkF m 87 #[.val (.int p1), .val (.int p2), .val (.int p3), .val (.int w), .val (.long (own_bit p1 w)), .second, .val (.long ((64 : Int64) * (w.toInt64))), .second, .val (.long (p1.toInt64)), .second, .val (.int (1 : Int32)), .unset, .unset] [(.long ((1 : Int64) <<< ((((p1.toInt64) - ((64 : Int64) * (w.toInt64))).toInt32) &&& 0x3f).toInt64))])) _
          refine XS.goto X102.here hx rfl (pc0 := 87) (pc' := 91) rfl (hb hby at_87) (by decide) (by decide) ?_
          show Steps p.tables e below (T102.setTop (mkF m 91 #[.val (.int p1), .val (.int p2), .val (.int p3), .val (.int w), .val (.long (own_bit p1 w)), .second, .val (.long ((64 : Int64) * (w.toInt64))), .second, .val (.long (p1.toInt64)), .second, .val (.int (1 : Int32)), .unset, .unset] [(.long ((1 : Int64) <<< ((((p1.toInt64) - ((64 : Int64) * (w.toInt64))).toInt32) &&& 0x3f).toInt64))])) _
          refine XS.lstore X102.here hx rfl (hb hby at_91) rfl (l' := #[.val (.int p1), .val (.int p2), .val (.int p3), .val (.int w), .val (.long (own_bit p1 w)), .second, .val (.long ((64 : Int64) * (w.toInt64))), .second, .val (.long (p1.toInt64)), .second, .val (.int (1 : Int32)), .val (.long ((1 : Int64) <<< ((((p1.toInt64) - ((64 : Int64) * (w.toInt64))).toInt32) &&& 0x3f).toInt64)), .second]) rfl ?_
          show Steps p.tables e below (T102.setTop (mkF m 93 #[.val (.int p1), .val (.int p2), .val (.int p3), .val (.int w), .val (.long (own_bit p1 w)), .second, .val (.long ((64 : Int64) * (w.toInt64))), .second, .val (.long (p1.toInt64)), .second, .val (.int (1 : Int32)), .val (.long ((1 : Int64) <<< ((((p1.toInt64) - ((64 : Int64) * (w.toInt64))).toInt32) &&& 0x3f).toInt64)), .second] [])) _
          refine XS.lload X102.here hx rfl (hb hby at_93) rfl ?_
          show Steps p.tables e below (T102.setTop (mkF m 95 #[.val (.int p1), .val (.int p2), .val (.int p3), .val (.int w), .val (.long (own_bit p1 w)), .second, .val (.long ((64 : Int64) * (w.toInt64))), .second, .val (.long (p1.toInt64)), .second, .val (.int (1 : Int32)), .val (.long ((1 : Int64) <<< ((((p1.toInt64) - ((64 : Int64) * (w.toInt64))).toInt32) &&& 0x3f).toInt64)), .second] [(.long (own_bit p1 w))])) _
          refine XS.lload X102.here hx rfl (hb hby at_95) rfl ?_
          show Steps p.tables e below (T102.setTop (mkF m 97 #[.val (.int p1), .val (.int p2), .val (.int p3), .val (.int w), .val (.long (own_bit p1 w)), .second, .val (.long ((64 : Int64) * (w.toInt64))), .second, .val (.long (p1.toInt64)), .second, .val (.int (1 : Int32)), .val (.long ((1 : Int64) <<< ((((p1.toInt64) - ((64 : Int64) * (w.toInt64))).toInt32) &&& 0x3f).toInt64)), .second] [(.long ((1 : Int64) <<< ((((p1.toInt64) - ((64 : Int64) * (w.toInt64))).toInt32) &&& 0x3f).toInt64)), (.long (own_bit p1 w))])) _
          refine XS.lcmp X102.here hx rfl (hb hby at_97) rfl ?_
          show Steps p.tables e below (T102.setTop (mkF m 98 #[.val (.int p1), .val (.int p2), .val (.int p3), .val (.int w), .val (.long (own_bit p1 w)), .second, .val (.long ((64 : Int64) * (w.toInt64))), .second, .val (.long (p1.toInt64)), .second, .val (.int (1 : Int32)), .val (.long ((1 : Int64) <<< ((((p1.toInt64) - ((64 : Int64) * (w.toInt64))).toInt32) &&& 0x3f).toInt64)), .second] [(.int (lcmpW (own_bit p1 w) ((1 : Int64) <<< ((((p1.toInt64) - ((64 : Int64) * (w.toInt64))).toInt32) &&& 0x3f).toInt64)))])) _
          refine XS.ifNo X102.here hx rfl (hb hby at_98) rfl ((if0 _ _).trans (teq ((lw_eq (own_bit p1 w) ((1 : Int64) <<< ((((p1.toInt64) - ((64 : Int64) * (w.toInt64))).toInt32) &&& 0x3f).toInt64)).mpr (own_D p1 w hc44_103 hc52_104 hc64_105))).2) ?_
          show Steps p.tables e below (T102.setTop (mkF m 101 #[.val (.int p1), .val (.int p2), .val (.int p3), .val (.int w), .val (.long (own_bit p1 w)), .second, .val (.long ((64 : Int64) * (w.toInt64))), .second, .val (.long (p1.toInt64)), .second, .val (.int (1 : Int32)), .val (.long ((1 : Int64) <<< ((((p1.toInt64) - ((64 : Int64) * (w.toInt64))).toInt32) &&& 0x3f).toInt64)), .second] [])) _
          refine XS.iconst X102.here hx rfl (hb hby at_101) ?_
          show Steps p.tables e below (T102.setTop (mkF m 102 #[.val (.int p1), .val (.int p2), .val (.int p3), .val (.int w), .val (.long (own_bit p1 w)), .second, .val (.long ((64 : Int64) * (w.toInt64))), .second, .val (.long (p1.toInt64)), .second, .val (.int (1 : Int32)), .val (.long ((1 : Int64) <<< ((((p1.toInt64) - ((64 : Int64) * (w.toInt64))).toInt32) &&& 0x3f).toInt64)), .second] [(.int (1 : Int32))])) _
          refine XS.goto X102.here hx rfl (pc0 := 102) (pc' := 106) rfl (hb hby at_102) (by decide) (by decide) ?_
          show Steps p.tables e below (T102.setTop (mkF m 106 #[.val (.int p1), .val (.int p2), .val (.int p3), .val (.int w), .val (.long (own_bit p1 w)), .second, .val (.long ((64 : Int64) * (w.toInt64))), .second, .val (.long (p1.toInt64)), .second, .val (.int (1 : Int32)), .val (.long ((1 : Int64) <<< ((((p1.toInt64) - ((64 : Int64) * (w.toInt64))).toInt32) &&& 0x3f).toInt64)), .second] [(.int (1 : Int32))])) _
          exact k
        refine EndsQ.retN X102 hx Bd.notSynchronized (t := .boolean) Bd.returns (by simp) (hb hby at_106) (by decide) (by decide) ?_
        show Q0 Z p1 p2 p3 h0 n0 (some (.int (nar .boolean (1 : Int32)))) T102.heap _
        rw [eq102]
        exact ⟨rfl, N102⟩
      · refine EndsQ.go (b := T102.setTop (mkF m 71 #[.val (.int p1), .val (.int p2), .val (.int p3), .val (.int w), .val (.long (own_bit p1 w)), .second, .val (.long ((64 : Int64) * (w.toInt64))), .second, .val (.long (p1.toInt64)), .second, .unset, .unset, .unset] [])) (fun t k => ?_) ?_
        · show Steps p.tables e below (T102.setTop (mkF m 64 #[.val (.int p1), .val (.int p2), .val (.int p3), .val (.int w), .val (.long (own_bit p1 w)), .second, .val (.long ((64 : Int64) * (w.toInt64))), .second, .val (.long (p1.toInt64)), .second, .unset, .unset, .unset] [(.int (lcmpW (p1.toInt64) (((64 : Int64) * (w.toInt64)) + (64 : Int64))))])) _
          refine XS.ifYes X102.here hx rfl (pc0 := 64) (pc' := 71) rfl (hb hby at_64) rfl ((if0 _ _).trans (flt (fun q => hc64_105 ((lw_lt (p1.toInt64) (((64 : Int64) * (w.toInt64)) + (64 : Int64))).mp q))).2.1) (by decide) (by decide) ?_
          show Steps p.tables e below (T102.setTop (mkF m 71 #[.val (.int p1), .val (.int p2), .val (.int p3), .val (.int w), .val (.long (own_bit p1 w)), .second, .val (.long ((64 : Int64) * (w.toInt64))), .second, .val (.long (p1.toInt64)), .second, .unset, .unset, .unset] [])) _
          exact k
        refine EndsQ.go (b := T102.setTop (mkF m 106 #[.val (.int p1), .val (.int p2), .val (.int p3), .val (.int w), .val (.long (own_bit p1 w)), .second, .val (.long ((64 : Int64) * (w.toInt64))), .second, .val (.long (p1.toInt64)), .second, .val (.int (0 : Int32)), .val (.long (0 : Int64)), .second] [(.int (1 : Int32))])) (fun t k => ?_) ?_
        · show Steps p.tables e below (T102.setTop (mkF m 71 #[.val (.int p1), .val (.int p2), .val (.int p3), .val (.int w), .val (.long (own_bit p1 w)), .second, .val (.long ((64 : Int64) * (w.toInt64))), .second, .val (.long (p1.toInt64)), .second, .unset, .unset, .unset] [])) _
          refine XS.iconst X102.here hx rfl (hb hby at_71) ?_
          show Steps p.tables e below (T102.setTop (mkF m 72 #[.val (.int p1), .val (.int p2), .val (.int p3), .val (.int w), .val (.long (own_bit p1 w)), .second, .val (.long ((64 : Int64) * (w.toInt64))), .second, .val (.long (p1.toInt64)), .second, .unset, .unset, .unset] [(.int (0 : Int32))])) _
          refine XS.istore X102.here hx rfl (hb hby at_72) rfl (l' := #[.val (.int p1), .val (.int p2), .val (.int p3), .val (.int w), .val (.long (own_bit p1 w)), .second, .val (.long ((64 : Int64) * (w.toInt64))), .second, .val (.long (p1.toInt64)), .second, .val (.int (0 : Int32)), .unset, .unset]) rfl ?_
          show Steps p.tables e below (T102.setTop (mkF m 74 #[.val (.int p1), .val (.int p2), .val (.int p3), .val (.int w), .val (.long (own_bit p1 w)), .second, .val (.long ((64 : Int64) * (w.toInt64))), .second, .val (.long (p1.toInt64)), .second, .val (.int (0 : Int32)), .unset, .unset] [])) _
          refine XS.iload X102.here hx rfl (hb hby at_74) rfl ?_
          show Steps p.tables e below (T102.setTop (mkF m 76 #[.val (.int p1), .val (.int p2), .val (.int p3), .val (.int w), .val (.long (own_bit p1 w)), .second, .val (.long ((64 : Int64) * (w.toInt64))), .second, .val (.long (p1.toInt64)), .second, .val (.int (0 : Int32)), .unset, .unset] [(.int (0 : Int32))])) _
          refine XS.ifYes X102.here hx rfl (pc0 := 76) (pc' := 90) rfl (hb hby at_76) rfl ((if0 _ _).trans (teq (by decide)).1) (by decide) (by decide) ?_
          show Steps p.tables e below (T102.setTop (mkF m 90 #[.val (.int p1), .val (.int p2), .val (.int p3), .val (.int w), .val (.long (own_bit p1 w)), .second, .val (.long ((64 : Int64) * (w.toInt64))), .second, .val (.long (p1.toInt64)), .second, .val (.int (0 : Int32)), .unset, .unset] [])) _
          refine XS.lconst X102.here hx rfl (hb hby at_90) ?_
          show Steps p.tables e below (T102.setTop (mkF m 91 #[.val (.int p1), .val (.int p2), .val (.int p3), .val (.int w), .val (.long (own_bit p1 w)), .second, .val (.long ((64 : Int64) * (w.toInt64))), .second, .val (.long (p1.toInt64)), .second, .val (.int (0 : Int32)), .unset, .unset] [(.long (0 : Int64))])) _
          refine XS.lstore X102.here hx rfl (hb hby at_91) rfl (l' := #[.val (.int p1), .val (.int p2), .val (.int p3), .val (.int w), .val (.long (own_bit p1 w)), .second, .val (.long ((64 : Int64) * (w.toInt64))), .second, .val (.long (p1.toInt64)), .second, .val (.int (0 : Int32)), .val (.long (0 : Int64)), .second]) rfl ?_
          show Steps p.tables e below (T102.setTop (mkF m 93 #[.val (.int p1), .val (.int p2), .val (.int p3), .val (.int w), .val (.long (own_bit p1 w)), .second, .val (.long ((64 : Int64) * (w.toInt64))), .second, .val (.long (p1.toInt64)), .second, .val (.int (0 : Int32)), .val (.long (0 : Int64)), .second] [])) _
          refine XS.lload X102.here hx rfl (hb hby at_93) rfl ?_
          show Steps p.tables e below (T102.setTop (mkF m 95 #[.val (.int p1), .val (.int p2), .val (.int p3), .val (.int w), .val (.long (own_bit p1 w)), .second, .val (.long ((64 : Int64) * (w.toInt64))), .second, .val (.long (p1.toInt64)), .second, .val (.int (0 : Int32)), .val (.long (0 : Int64)), .second] [(.long (own_bit p1 w))])) _
          refine XS.lload X102.here hx rfl (hb hby at_95) rfl ?_
          show Steps p.tables e below (T102.setTop (mkF m 97 #[.val (.int p1), .val (.int p2), .val (.int p3), .val (.int w), .val (.long (own_bit p1 w)), .second, .val (.long ((64 : Int64) * (w.toInt64))), .second, .val (.long (p1.toInt64)), .second, .val (.int (0 : Int32)), .val (.long (0 : Int64)), .second] [(.long (0 : Int64)), (.long (own_bit p1 w))])) _
          refine XS.lcmp X102.here hx rfl (hb hby at_97) rfl ?_
          show Steps p.tables e below (T102.setTop (mkF m 98 #[.val (.int p1), .val (.int p2), .val (.int p3), .val (.int w), .val (.long (own_bit p1 w)), .second, .val (.long ((64 : Int64) * (w.toInt64))), .second, .val (.long (p1.toInt64)), .second, .val (.int (0 : Int32)), .val (.long (0 : Int64)), .second] [(.int (lcmpW (own_bit p1 w) (0 : Int64)))])) _
          refine XS.ifNo X102.here hx rfl (hb hby at_98) rfl ((if0 _ _).trans (teq ((lw_eq (own_bit p1 w) (0 : Int64)).mpr (own_C p1 w hc44_103 hc64_105))).2) ?_
          show Steps p.tables e below (T102.setTop (mkF m 101 #[.val (.int p1), .val (.int p2), .val (.int p3), .val (.int w), .val (.long (own_bit p1 w)), .second, .val (.long ((64 : Int64) * (w.toInt64))), .second, .val (.long (p1.toInt64)), .second, .val (.int (0 : Int32)), .val (.long (0 : Int64)), .second] [])) _
          refine XS.iconst X102.here hx rfl (hb hby at_101) ?_
          show Steps p.tables e below (T102.setTop (mkF m 102 #[.val (.int p1), .val (.int p2), .val (.int p3), .val (.int w), .val (.long (own_bit p1 w)), .second, .val (.long ((64 : Int64) * (w.toInt64))), .second, .val (.long (p1.toInt64)), .second, .val (.int (0 : Int32)), .val (.long (0 : Int64)), .second] [(.int (1 : Int32))])) _
          refine XS.goto X102.here hx rfl (pc0 := 102) (pc' := 106) rfl (hb hby at_102) (by decide) (by decide) ?_
          show Steps p.tables e below (T102.setTop (mkF m 106 #[.val (.int p1), .val (.int p2), .val (.int p3), .val (.int w), .val (.long (own_bit p1 w)), .second, .val (.long ((64 : Int64) * (w.toInt64))), .second, .val (.long (p1.toInt64)), .second, .val (.int (0 : Int32)), .val (.long (0 : Int64)), .second] [(.int (1 : Int32))])) _
          exact k
        refine EndsQ.retN X102 hx Bd.notSynchronized (t := .boolean) Bd.returns (by simp) (hb hby at_106) (by decide) (by decide) ?_
        show Q0 Z p1 p2 p3 h0 n0 (some (.int (nar .boolean (1 : Int32)))) T102.heap _
        rw [eq102]
        exact ⟨rfl, N102⟩
set_option maxRecDepth 65536 in
set_option maxHeartbeats 40000000 in
theorem comes_1 {Post : Tables → Env → Array Value → State → Outcome → State → Prop} (hpost : ∀ tb e args s v u, (limb_1_1.after args s (.returned v) u = true ∧ limb_1_2.after args s (.returned v) u = true ∧ True) → FrameEnd s (.returned v) u (Jvm.fieldLocs frame_1_writes args s ++ Jvm.arrayLocs frame_1_arrays args s ++ Jvm.staticLocs frame_1_statics s) 0 0 → Post tb e args s (.returned v) u) :
    ArmFor flags0 classFile x code maxLocals ret World_1 tables_1 room_1 Calls_1 rest_1 Pre_1 Post := by
  intro l hfl _ _ p e ha hc hk s m args below hf hA hF happ hP
  obtain ⟨hcalls, hrest, hpre⟩ := hP
  obtain ⟨-, -, -, hnamed, -, -, -, hat⟩ := (Spec.applies_iff hf).mp happ
  obtain ⟨hg, hn⟩ := and_e (Cond.before_iff.mp (show (Jvm.Cond.and given_1 narrow_1).before args s = true from hpre))
  obtain ⟨g1a, g1b⟩ := and_e hg
  obtain ⟨g2a, g2b⟩ := and_e g1b
  obtain ⟨g3a, g3b⟩ := and_e g2b
  obtain ⟨w0, w1, w2, rfl⟩ : ∃ w0 w1 w2 : Value, args = #[w0, w1, w2] := by
    have hs : args.size = 3 := by simpa [Cond.value, given_1] using g1a
    obtain ⟨L⟩ := args
    match L, hs with
    | [w0, w1, w2], _ => exact ⟨w0, w1, w2, rfl⟩
  have hw := fun d (hd : d ∈ tables_1) => atoms_spec (ws := Jvm.Cond.code x code maxLocals ret :: tables_1) hat d (List.mem_cons_of_mem _ hd)
  have hfit : Fit s := fun {y c} hc i hi => by
    obtain ⟨ha, rfl⟩ := Array.getElem?_eq_some_iff.mp hc
    have q := List.all_eq_true.mp ((Array.all_eq_true_iff_forall_mem.mp hF) _ (Array.getElem_mem ha)) i (List.mem_range.mpr hi)
    simpa [Array.getElem?_eq_getElem hi] using q
  obtain ⟨i0, ei0⟩ := is_v g2a
  obtain rfl : w0 = (.int i0) := Option.some.inj ei0
  obtain ⟨i1, ei1⟩ := is_v g3a
  obtain rfl : w1 = (.int i1) := Option.some.inj ei1
  obtain ⟨i2, ei2⟩ := is_v g3b
  obtain rfl : w2 = (.int i2) := Option.some.inj ei2
  obtain ⟨n, o, h1, h2, h3, _, L, rfl, ⟨rfl, N⟩, hq⟩ := rm0 l s _ hw tables_1 i0 i1 i2 s.heap s.heap.size (Nat.le_refl _) p e ha hc hk s m _ below hf ((Spec.applies_iff_loose hf).mp happ).1 ⟨rfl, State.Warmed39.refl s, rfl⟩ trivial
  refine ⟨n, _, h1, h2, h3, hpost _ _ _ _ _ _ ⟨Cond.after_iff.mpr rfl, Cond.after_iff.mpr (eq_i res_at (Term.int_eval (1)) rfl), trivial⟩ ⟨hq.1, hq.2.1, (hq.2.2.sift fun y hy => Or.inr (N y hy)).mono (by decide) (by decide)⟩⟩
theorem main_1_1 : Claimed_1_1 := comes_1 fun _ _ _ _ _ _ h hF => ⟨h.1, hF⟩
theorem main_1_2 : Claimed_1_2 := comes_1 fun _ _ _ _ _ _ h hF => ⟨h.2.1, hF⟩
end Jvm.Pilot.@@N@@
namespace Jvm.Pilot.@@N@@
open Jvm Jvm.ClassFile Sem Op Lib Jvm.Free Jvm.Stand Jvm.Pilot.@@N@@.Jvm.D
/-! MADE BY PROGRAM (witnessworld.py) out of the Statement's table words and the real class files: 9 classes; the members and pool entries that the words name. The judged class is class 1, her method 1. -/
namespace start1
open Jvm.ClassFile
def u (s : String) : CpInfo := .utf8 (stringToUtf16 s)
/-- a pool by its gaps: so many unusable entries, then the entry; so many at the end -/
def gap : Nat → List CpInfo → List CpInfo
  | 0, r => r
  | n + 1, r => .unusable :: gap n r
def poolList (es : List (Nat × CpInfo)) (last : Nat) : List CpInfo := es.foldr (fun e r => gap e.1 (e.2 :: r)) (gap last [])
def pool (es : List (Nat × CpInfo)) (last : Nat) : Array CpInfo := ⟨poolList es last⟩
def fileOf (pool : Array CpInfo) (this : Nat) (attrs : Array Attribute := #[]) (ms : Array MethodInfo := #[]) (fl : Nat := 33) (sup : Nat := 0) (ifs : Array Nat := #[]) (fds : Array FieldInfo := #[]) : ClassFile where
  minorVersion := 0
  majorVersion := 65
  constantPool := pool
  accessFlags := fl
  thisClass := this
  superClass := sup
  interfaces := ifs
  fields := fds
  methods := ms
  attributes := attrs
def plain (name : String) (sup : Option ClassId) : Class where
  name := name
  kind := .ordinary
  loader := none
  accessFlags := 33
  super := sup
  interfaces := #[]
  cf := none
  fields := #[]
  methods := #[]
  instanceTypes := #[]
  staticTypes := #[]
  resolved := #[]
  callSites := []
  init := .initialized
  statics := none
  mirror := none

def pool0 : Array CpInfo := pool [(5, u "<init>"), (0, u "()V"), (1, .class_ 10), (1, u "java/lang/Object")] 113

def k0m0 : Method := { name := "<init>", desc := "()V", sig := { parameters := [], returnType := none }, accessFlags := 1, code := none }
/-- java/lang/Object -/
def k0 : Class := { plain "java/lang/Object" none with
  accessFlags := 33
  interfaces := #[]
  cf := some (fileOf pool0 8 #[] #[{ accessFlags := 1, nameIndex := 5, descriptorIndex := 6, attributes := #[] }] 33 0 #[] #[])
  fields := #[]
  methods := #[k0m0]
  instanceTypes := #[]
  staticTypes := #[]
  resolved := Array.replicate 124 none
  statics := none }

def pool1 : Array CpInfo := pool [(2, .class_ 4), (1, u "java/lang/Object"), (0, u "<init>"), (0, u "()V"), (0, .methodref 8 9), (0, .class_ 10), (0, .nameAndType 11 12), (0, u "com/example/physarum/physarum/NeighbourBits"), (0, u "bit"), (0, u "(II)J"), (0, .long 64), (1, .class_ 16), (0, u "com/example/physarum/physarum/NeighbourBitsBitPinLaw"), (2, u "law"), (0, u "(III)Z")] 3

def k1m0 : Method := { name := "<init>", desc := "()V", sig := { parameters := [], returnType := none }, accessFlags := 2, code := none }
def k1c1 : Code := { maxStack := 6, maxLocals := 13, code := code, exceptionTable := #[], attributes := #[] }
def k1m1 : Method := { name := "law", desc := "(III)Z", sig := { parameters := [.int, .int, .int], returnType := some .boolean }, accessFlags := 9, code := some k1c1 }
/-- com/example/physarum/physarum/NeighbourBitsBitPinLaw -/
def k1 : Class := { plain "com/example/physarum/physarum/NeighbourBitsBitPinLaw" (some 0) with
  accessFlags := 49
  interfaces := #[]
  cf := some (fileOf pool1 15 #[] #[{ accessFlags := 2, nameIndex := 5, descriptorIndex := 6, attributes := #[] }, { accessFlags := 9, nameIndex := 19, descriptorIndex := 20, attributes := #[] }] 49 2 #[] #[])
  fields := #[]
  methods := #[k1m0, k1m1]
  instanceTypes := #[]
  staticTypes := #[]
  resolved := Array.replicate 24 none
  statics := none }

def pool2 : Array CpInfo := pool [(2, .class_ 4), (1, u "java/lang/Object"), (3, .class_ 10), (1, u "com/example/physarum/physarum/NeighbourBits"), (0, u "entityCount"), (0, u "I"), (2, u "words"), (2, u "bits"), (0, u "[J"), (38, u "MAX_ENTITIES"), (2, u "MAX_WORDS"), (0, u "J"), (8, u "bit"), (0, u "(II)J")] 2

def k2c0 : Code := { maxStack := 3, maxLocals := 2, code := prog_33_method_6_code, exceptionTable := #[], attributes := #[] }
def k2m0 : Method := { name := "bit", desc := "(II)J", sig := { parameters := [.int, .int], returnType := some .long }, accessFlags := 8, code := some k2c0 }
/-- com/example/physarum/physarum/NeighbourBits -/
def k2 : Class := { plain "com/example/physarum/physarum/NeighbourBits" (some 0) with
  accessFlags := 48
  interfaces := #[]
  cf := some (fileOf pool2 8 #[] #[{ accessFlags := 8, nameIndex := 71, descriptorIndex := 72, attributes := #[] }] 48 2 #[] #[{ accessFlags := 24, nameIndex := 58, descriptorIndex := 12, attributes := #[] }, { accessFlags := 24, nameIndex := 61, descriptorIndex := 62, attributes := #[] }, { accessFlags := 18, nameIndex := 11, descriptorIndex := 12, attributes := #[] }, { accessFlags := 18, nameIndex := 15, descriptorIndex := 12, attributes := #[] }, { accessFlags := 18, nameIndex := 18, descriptorIndex := 19, attributes := #[] }])
  fields := #[{ name := "MAX_ENTITIES", type := .int, accessFlags := 24, slot := 0, constantValue := 0 }, { name := "MAX_WORDS", type := .long, accessFlags := 24, slot := 1, constantValue := 0 }, { name := "entityCount", type := .int, accessFlags := 18, slot := 0, constantValue := 0 }, { name := "words", type := .int, accessFlags := 18, slot := 1, constantValue := 0 }, { name := "bits", type := (.array .long), accessFlags := 18, slot := 2, constantValue := 0 }]
  methods := #[k2m0]
  instanceTypes := #[.int, .int, (.array .long)]
  staticTypes := #[.int, .long]
  resolved := Array.replicate 75 none
  statics := none }

def pool3 : Array CpInfo := pool [(1, u "java/lang/Cloneable"), (0, .class_ 1), (0, u "java/lang/Object"), (0, .class_ 3)] 3

/-- java/lang/Cloneable -/
def k3 : Class := { plain "java/lang/Cloneable" (some 0) with
  accessFlags := 1537
  interfaces := #[]
  cf := some (fileOf pool3 2 #[] #[] 1537 4 #[] #[])
  fields := #[]
  methods := #[]
  instanceTypes := #[]
  staticTypes := #[]
  resolved := Array.replicate 8 none
  statics := none }

def pool4 : Array CpInfo := pool [(1, u "java/io/Serializable"), (0, .class_ 1), (0, u "java/lang/Object"), (0, .class_ 3)] 3

/-- java/io/Serializable -/
def k4 : Class := { plain "java/io/Serializable" (some 0) with
  accessFlags := 1537
  interfaces := #[]
  cf := some (fileOf pool4 2 #[] #[] 1537 4 #[] #[])
  fields := #[]
  methods := #[]
  instanceTypes := #[]
  staticTypes := #[]
  resolved := Array.replicate 8 none
  statics := none }

/-- the primitive byte -/
def k5 : Class := { plain "byte" none with kind := .primitive 'B', accessFlags := 0x411 }
/-- [B -/
def k6 : Class := { plain "[B" (some 0) with kind := .array 5 .byte, interfaces := #[3, 4], accessFlags := 1041 }

/-- the primitive int -/
def k7 : Class := { plain "int" none with kind := .primitive 'I', accessFlags := 0x411 }
/-- [I -/
def k8 : Class := { plain "[I" (some 0) with kind := .array 7 .int, interfaces := #[3, 4], accessFlags := 1041 }

def heap : Heap := #[]
def classes : Array Class := #[k0, k1, k2, k3, k4, k5, k6, k7, k8]
def interned : List (Array UInt16 × Addr) := []
def slotsUsed : Nat := 0
def theMethod : MethodId := ⟨1, 1⟩
def args0 : Array Value := #[.int 5, .int 300, .int 7]
def aboutOver (below : List Frame) : State where
  vm := { classes := classes, interned := interned.toArray }
  heap := heap
  slotsUsed := slotsUsed
  threads := #[{ frames := .invoking theMethod args0 :: below }]
def below0 : List Frame := [.native { method := ⟨0, 0⟩, args := #[] }]
def about1 : State := aboutOver below0
def p0 : Program := .bare "" "" ""
def e0 : Env := launch0.env 0 0 0
theorem w_frames : about1.frames = Frame.invoking theMethod args0 :: below0 := rfl
set_option maxRecDepth 65536 in
theorem w_args : argsFit about1.vm theMethod args0 = true := by decide +kernel
set_option maxRecDepth 65536 in
theorem w_heap : heapFits about1 = true := by decide +kernel
set_option maxRecDepth 65536 in
theorem w_runnable : about1.curStatus? = some .runnable := by decide +kernel
set_option maxRecDepth 65536 in
theorem w_alone : about1.alone = true := by decide +kernel
set_option maxRecDepth 65536 in
theorem w_named : about1.methodNamed? x = some theMethod := by decide +kernel
set_option maxRecDepth 65536 in
theorem w_hears : about1.hears theMethod below0 = true := by decide +kernel
set_option maxRecDepth 65536 in
theorem w_ripe : about1.ripe theMethod args0 below0 = true := by decide +kernel
theorem w_running : about1.status = .running := rfl
set_option maxRecDepth 65536 in
theorem w_room : about1.hasRoom e0.platform room_1 = true :=
  launch0.hasRoom_least _ room_1 (by decide +kernel) (by decide +kernel) (by decide +kernel) (by decide +kernel) (by decide +kernel) (by decide +kernel)
theorem allAtoms_all (ts : List Jvm.Cond) (a : Array Jvm.Value) (st : Jvm.State) : (allAtoms ts).before a st = ts.all (fun c => c.before a st) := by
  induction ts with
  | nil => rfl
  | cons c t ih =>
    show (Jvm.Cond.and c (allAtoms t)).before a st = _
    rw [Jvm.Cond.before_and, ih, List.all_cons]
def words1 : List Jvm.Cond := Jvm.Cond.code x code maxLocals ret :: tables_1
/-- a 'code' word, met by the world's own term for the bytes: nothing is compared byte by byte -/
theorem code_word {y : MethodName} {bytes : ByteArray} {mx : Nat} {rt : Option FieldType} {a : Array Value} {s : State} {m : MethodId} {meth : Method} {c : Code} (h1 : s.methodNamed? y = some m) (h2 : s.vm.method? m = some meth) (h3 : meth.code = some c) (h4 : c.code = bytes)
    (h5 : (c.maxLocals == mx && c.exceptionTable.isEmpty && decide (c.maxStack ≤ mostOperands) && decide (meth.sig.returnType = rt) && !meth.locks && decide (parseMethodDescriptor y.desc = some meth.sig)) = true) : (Jvm.Cond.code y bytes mx rt).before a s = true := by
  simp only [Bool.and_eq_true, beq_iff_eq, Bool.not_eq_true', decide_eq_true_eq] at h5
  obtain ⟨⟨⟨⟨⟨g1, g2⟩, g3⟩, g4⟩, g5⟩, g6⟩ := h5
  simp [Cond.before, Cond.holds, Cond.value, h1, h2, h3, h4, g1, g2, g3, g4, g5, g6]
def isCode : Jvm.Cond → Bool
  | .code _ _ _ _ => true
  | _ => false
theorem all_split {L : List Jvm.Cond} {P : Jvm.Cond → Bool} (h1 : L.all (fun c => isCode c || P c) = true) (h2 : ∀ c ∈ L.filter isCode, P c = true) : L.all P = true := by
  refine List.all_eq_true.mpr fun c hc => ?_
  have h := List.all_eq_true.mp h1 c hc
  rcases Bool.eq_false_or_eq_true (isCode c) with hi | hi
  · exact h2 c (List.mem_filter.mpr ⟨hc, hi⟩)
  · simpa [hi] using h
set_option maxRecDepth 65536 in
theorem w_c0 : (Jvm.Cond.code x code maxLocals ret).before args0 about1 = true := code_word (m := ⟨1, 1⟩) (meth := k1m1) (c := k1c1) (by decide +kernel) rfl rfl rfl (by decide +kernel)
set_option maxRecDepth 65536 in
theorem w_c1 : (Jvm.Cond.code ({ cls := "com/example/physarum/physarum/NeighbourBits", name := "bit", desc := "(II)J" } : Jvm.MethodName) prog_33_method_6_code (2 : Nat) (Option.some Jvm.ClassFile.FieldType.long)).before args0 about1 = true := code_word (m := ⟨2, 0⟩) (meth := k2m0) (c := k2c0) (by decide +kernel) rfl rfl rfl (by decide +kernel)
def codes1 : List Jvm.Cond := [Jvm.Cond.code x code maxLocals ret, Jvm.Cond.code ({ cls := "com/example/physarum/physarum/NeighbourBits", name := "bit", desc := "(II)J" } : Jvm.MethodName) prog_33_method_6_code (2 : Nat) (Option.some Jvm.ClassFile.FieldType.long)]
set_option maxRecDepth 65536 in
theorem codes_eq : words1.filter isCode = codes1 := rfl
theorem w_codes : ∀ c ∈ words1.filter isCode, c.before args0 about1 = true := by
  rw [codes_eq]
  intro c hc
  simp only [codes1, List.mem_cons, List.not_mem_nil, or_false] at hc
  rcases hc with rfl | rfl
  · exact w_c0
  · exact w_c1
set_option maxRecDepth 65536 in
theorem w_t1 : words1.all (fun c => isCode c || c.before args0 about1) = true := by decide +kernel
theorem w_tables : (allAtoms (Jvm.Cond.code x code maxLocals ret :: tables_1)).before args0 about1 = true := by
  rw [allAtoms_all]
  show words1.all (fun c => c.before args0 about1) = true
  refine all_split ?_ w_codes
  rw [w_t1]
set_option maxRecDepth 65536 in
theorem w_case : (Jvm.Cond.and given_1 narrow_1).before args0 about1 = true := by decide +kernel
theorem w_applies : (headSpec (Jvm.Cond.code x code maxLocals ret :: tables_1) room_1).applies x e0.platform about1 = true :=
  (Spec.applies_iff w_frames).mpr ⟨w_running, w_runnable, w_alone, w_named, w_hears, w_ripe, w_room, w_tables⟩
theorem atStart : AtStart classFile x code maxLocals ret World_1 tables_1 room_1 Calls_1 rest_1 Pre_1 launch0 p0 e0 about1 theMethod args0 below0 :=
  ⟨lists_1, trivial, launch0.admits_env _ _ _, launch0.least_env, fairChoices_fair.cas, fairChoices_fair.clock, w_frames, w_args, w_heap, w_applies, trivial, trivial, w_case⟩
end start1
theorem witness_1 : WitnessClaimed_1 := ⟨start1.p0, start1.e0, start1.about1, start1.theMethod, start1.args0, start1.below0, start1.atStart⟩
end Jvm.Pilot.@@N@@
