import JvmDerived
import JvmDerived.Pilot.@@N@@Statement
import JvmDerived.Pilot.@@N@@Code
set_option linter.unusedVariables false
set_option linter.unusedSimpArgs false
namespace Jvm.RoadKit
open Sem ClassFile Op Lib Jvm.Stand Jvm.Free Jvm.LawKit
section OwnKit
variable {p : Program} {l : Launch} {e : Env} {R : Room} {s : State} {m : MethodId} {args : Array Value} {below : List Frame} {meth : Method} {c : Code} {T : State} {locs : List Loc} {cells slots : Nat}
def EndsQ (tb : Tables) (e : Env) (below : List Frame) (s : State) (Qv : Option Value → Heap → List Loc → Prop) (rc rs : Nat) (st : State) : Prop :=
  ∃ s₂ o, Steps tb e below st s₂ ∧ s₂.status = .running ∧ Ended s₂ below o ∧ ∃ v L, o = .returned v ∧ Qv v s₂.heap L ∧ FrameEnd s o s₂ L rc rs
theorem EndsQ.go {tb : Tables} {Qv : Option Value → Heap → List Loc → Prop} {rc rs : Nat} {a b : State} (k : ∀ t, Steps tb e below b t → Steps tb e below a t) (h : EndsQ tb e below s Qv rc rs b) : EndsQ tb e below s Qv rc rs a := by
  obtain ⟨s₂, o, h1, h2⟩ := h
  exact ⟨s₂, o, k _ h1, h2⟩
theorem EndsQ.out (X : Stand p l e R s m args below meth c T locs cells slots) (hlk : meth.locks = false) {Qv : Option Value → Heap → List Loc → Prop} {rc rs : Nat} {v : Option Value} {st : State} (hv : meth.sig.returnType = none → v = none)
    (hs : ∀ fs, (∀ (f : JFrame) (acts : List Action), f.method = m → f.locked = none → f.entered = [] → (doReturn e (T.setTop f) acts v).1 = T.setFrames fs) → Steps p.tables e below st (T.setFrames fs))
    (h1 : cells ≤ rc) (h2 : slots ≤ rs) (hq : Qv v T.heap locs) : EndsQ p.tables e below s Qv rc rs st := by
  obtain ⟨fs, hr, hrun, hended, hW, hsame⟩ := X.leave (v := v) hv hlk
  exact ⟨_, _, hs fs hr, hrun, hended, _, _, rfl, hq, ⟨_, rfl⟩, hW, hsame.mono h1 h2⟩
theorem EndsQ.retI (X : Stand p l e R s m args below meth c T locs cells slots) (hx : p.tables.exec = Jvm.exec) (hlk : meth.locks = false) {Qv : Option Value → Heap → List Loc → Prop} {rc rs pc : Nat} {Ls : Array Slot} {z : Int32} {rest : List Value} (hret : meth.sig.returnType = some .int) (hd : decode c.code pc = .ok (.ireturn, 1))
    (h1 : cells ≤ rc) (h2 : slots ≤ rs) (hq : Qv (some (.int z)) T.heap locs) : EndsQ p.tables e below s Qv rc rs (T.setTop (mkF m pc Ls (.int z :: rest))) := by
  refine EndsQ.out X hlk (v := some (.int z)) (fun h => by rw [hret] at h; cases h) (fun fs hr => ?_) h1 h2 hq
  exact retOut X hx hret rfl (Or.inl ⟨rfl, Or.inl rfl, z, rfl⟩) hd hr
theorem EndsQ.retJ (X : Stand p l e R s m args below meth c T locs cells slots) (hx : p.tables.exec = Jvm.exec) (hlk : meth.locks = false) {Qv : Option Value → Heap → List Loc → Prop} {rc rs pc : Nat} {Ls : Array Slot} {z : Int64} {rest : List Value} (hret : meth.sig.returnType = some .long) (hd : decode c.code pc = .ok (.lreturn, 1))
    (h1 : cells ≤ rc) (h2 : slots ≤ rs) (hq : Qv (some (.long z)) T.heap locs) : EndsQ p.tables e below s Qv rc rs (T.setTop (mkF m pc Ls (.long z :: rest))) := by
  refine EndsQ.out X hlk (v := some (.long z)) (fun h => by rw [hret] at h; cases h) (fun fs hr => ?_) h1 h2 hq
  exact retOut X hx hret rfl (Or.inr (Or.inl ⟨rfl, rfl, z, rfl⟩)) hd hr
theorem EndsQ.retA (X : Stand p l e R s m args below meth c T locs cells slots) (hx : p.tables.exec = Jvm.exec) (hlk : meth.locks = false) {Qv : Option Value → Heap → List Loc → Prop} {rc rs pc : Nat} {Ls : Array Slot} {w : Value} {t : FieldType} {rest : List Value} (hret : meth.sig.returnType = some t) (ht : t.isReference = true) (hw : w.isRef = true) (hn : narrow t w = w) (hd : decode c.code pc = .ok (.areturn, 1))
    (h1 : cells ≤ rc) (h2 : slots ≤ rs) (hq : Qv (some w) T.heap locs) : EndsQ p.tables e below s Qv rc rs (T.setTop (mkF m pc Ls (w :: rest))) := by
  refine EndsQ.out X hlk (v := some w) (fun h => by rw [hret] at h; cases h) (fun fs hr => ?_) h1 h2 hq
  exact retOut X hx hret hn (Or.inr (Or.inr (Or.inr (Or.inr ⟨rfl, ht, hw⟩)))) hd hr
theorem EndsQ.retN (X : Stand p l e R s m args below meth c T locs cells slots) (hx : p.tables.exec = Jvm.exec) (hlk : meth.locks = false) {Qv : Option Value → Heap → List Loc → Prop} {rc rs pc : Nat} {Ls : Array Slot} {z : Int32} {t : FieldType} {rest : List Value} (hret : meth.sig.returnType = some t) (ht : t = .boolean ∨ t = .byte ∨ t = .char ∨ t = .short) (hd : decode c.code pc = .ok (.ireturn, 1))
    (h1 : cells ≤ rc) (h2 : slots ≤ rs) (hq : Qv (some (.int (nar t z))) T.heap locs) : EndsQ p.tables e below s Qv rc rs (T.setTop (mkF m pc Ls (.int z :: rest))) := by
  refine EndsQ.out X hlk (v := some (.int (nar t z))) (fun h => by rw [hret] at h; cases h) (fun fs hr => ?_) h1 h2 hq
  exact Jvm.RoadKit.retN X hx hret ht hd hr
theorem EndsQ.retV (X : Stand p l e R s m args below meth c T locs cells slots) (hx : p.tables.exec = Jvm.exec) (hlk : meth.locks = false) {Qv : Option Value → Heap → List Loc → Prop} {rc rs pc : Nat} {Ls : Array Slot} (hret : meth.sig.returnType = none) (hd : decode c.code pc = .ok (.return_, 1))
    (h1 : cells ≤ rc) (h2 : slots ≤ rs) (hq : Qv none T.heap locs) : EndsQ p.tables e below s Qv rc rs (T.setTop (mkF m pc Ls [])) := by
  refine EndsQ.out X hlk (v := none) (fun _ => rfl) (fun fs hr => ?_) h1 h2 hq
  exact X.returnOut hx hret hd hr
end OwnKit
end Jvm.RoadKit
namespace Jvm.Pilot.@@N@@
open Jvm Jvm.ClassFile Sem Op Lib Jvm.Free Jvm.Stand Jvm.LawKit Jvm.RoadKit Bundle Jvm.Pilot.@@N@@.Jvm.D

theorem own_back (a b : Int64) : (a - b) + b = a := Int64.sub_add_cancel a b
theorem d2_0 : decode jdk_30_method_1_code 0 = .ok (.aload_n 0, 1) := by decide +kernel
theorem d2_1 : decode jdk_30_method_1_code 1 = .ok (.invokespecial 1, 3) := by decide +kernel
theorem d2_4 : decode jdk_30_method_1_code 4 = .ok (.return_, 1) := by decide +kernel
theorem pn_2 : plainName "java/lang/Record" = true := by first | (simp [plainName, overriddenIn]; done) | decide +kernel
theorem d1_0 : decode prog_2_method_1_code 0 = .ok (.aload_n 0, 1) := by decide +kernel
theorem d1_1 : decode prog_2_method_1_code 1 = .ok (.invokespecial 1, 3) := by decide +kernel
theorem d1_4 : decode prog_2_method_1_code 4 = .ok (.aload_n 0, 1) := by decide +kernel
theorem d1_5 : decode prog_2_method_1_code 5 = .ok (.lload_n 1, 1) := by decide +kernel
theorem d1_6 : decode prog_2_method_1_code 6 = .ok (.putfield 7, 3) := by decide +kernel
theorem d1_9 : decode prog_2_method_1_code 9 = .ok (.aload_n 0, 1) := by decide +kernel
theorem d1_10 : decode prog_2_method_1_code 10 = .ok (.lload_n 3, 1) := by decide +kernel
theorem d1_11 : decode prog_2_method_1_code 11 = .ok (.putfield 13, 3) := by decide +kernel
theorem d1_14 : decode prog_2_method_1_code 14 = .ok (.aload_n 0, 1) := by decide +kernel
theorem d1_15 : decode prog_2_method_1_code 15 = .ok (.lload 5, 2) := by decide +kernel
theorem d1_17 : decode prog_2_method_1_code 17 = .ok (.putfield 16, 3) := by decide +kernel
theorem d1_20 : decode prog_2_method_1_code 20 = .ok (.return_, 1) := by decide +kernel
theorem pn_1 : plainName "com/example/mini_queue/miniqueue/CostCounters" = true := by first | (simp [plainName, overriddenIn]; done) | decide +kernel
theorem d4_0 : decode prog_2_method_2_code 0 = .ok (.new 8, 3) := by decide +kernel
theorem d4_3 : decode prog_2_method_2_code 3 = .ok (.dup, 1) := by decide +kernel
theorem d4_4 : decode prog_2_method_2_code 4 = .ok (.aload_n 0, 1) := by decide +kernel
theorem d4_5 : decode prog_2_method_2_code 5 = .ok (.getfield 7, 3) := by decide +kernel
theorem d4_8 : decode prog_2_method_2_code 8 = .ok (.aload_n 1, 1) := by decide +kernel
theorem d4_9 : decode prog_2_method_2_code 9 = .ok (.getfield 7, 3) := by decide +kernel
theorem d4_12 : decode prog_2_method_2_code 12 = .ok (.lsub, 1) := by decide +kernel
theorem d4_13 : decode prog_2_method_2_code 13 = .ok (.aload_n 0, 1) := by decide +kernel
theorem d4_14 : decode prog_2_method_2_code 14 = .ok (.getfield 13, 3) := by decide +kernel
theorem d4_17 : decode prog_2_method_2_code 17 = .ok (.aload_n 1, 1) := by decide +kernel
theorem d4_18 : decode prog_2_method_2_code 18 = .ok (.getfield 13, 3) := by decide +kernel
theorem d4_21 : decode prog_2_method_2_code 21 = .ok (.lsub, 1) := by decide +kernel
theorem d4_22 : decode prog_2_method_2_code 22 = .ok (.aload_n 0, 1) := by decide +kernel
theorem d4_23 : decode prog_2_method_2_code 23 = .ok (.getfield 16, 3) := by decide +kernel
theorem d4_26 : decode prog_2_method_2_code 26 = .ok (.aload_n 1, 1) := by decide +kernel
theorem d4_27 : decode prog_2_method_2_code 27 = .ok (.getfield 16, 3) := by decide +kernel
theorem d4_30 : decode prog_2_method_2_code 30 = .ok (.lsub, 1) := by decide +kernel
theorem d4_31 : decode prog_2_method_2_code 31 = .ok (.invokespecial 19, 3) := by decide +kernel
theorem d4_34 : decode prog_2_method_2_code 34 = .ok (.areturn, 1) := by decide +kernel
theorem pn_4 : plainName "com/example/mini_queue/miniqueue/CostCounters" = true := by first | (simp [plainName, overriddenIn]; done) | decide +kernel
theorem d5_0 : decode prog_2_method_6_code 0 = .ok (.aload_n 0, 1) := by decide +kernel
theorem d5_1 : decode prog_2_method_6_code 1 = .ok (.getfield 7, 3) := by decide +kernel
theorem d5_4 : decode prog_2_method_6_code 4 = .ok (.lreturn, 1) := by decide +kernel
theorem pn_5 : plainName "com/example/mini_queue/miniqueue/CostCounters" = true := by first | (simp [plainName, overriddenIn]; done) | decide +kernel
theorem d6_0 : decode prog_2_method_7_code 0 = .ok (.aload_n 0, 1) := by decide +kernel
theorem d6_1 : decode prog_2_method_7_code 1 = .ok (.getfield 13, 3) := by decide +kernel
theorem d6_4 : decode prog_2_method_7_code 4 = .ok (.lreturn, 1) := by decide +kernel
theorem pn_6 : plainName "com/example/mini_queue/miniqueue/CostCounters" = true := by first | (simp [plainName, overriddenIn]; done) | decide +kernel
theorem d7_0 : decode prog_2_method_8_code 0 = .ok (.aload_n 0, 1) := by decide +kernel
theorem d7_1 : decode prog_2_method_8_code 1 = .ok (.getfield 16, 3) := by decide +kernel
theorem d7_4 : decode prog_2_method_8_code 4 = .ok (.lreturn, 1) := by decide +kernel
theorem pn_7 : plainName "com/example/mini_queue/miniqueue/CostCounters" = true := by first | (simp [plainName, overriddenIn]; done) | decide +kernel
theorem pn_0 : plainName "com/example/mini_queue/miniqueue/CostCountersSincePinLaw" = true := by first | (simp [plainName, overriddenIn]; done) | decide +kernel
theorem pd_0 : parseMethodDescriptor "()V" = some ⟨[], none⟩ := by decide +kernel
theorem pd_1 : parseMethodDescriptor "(JJJ)V" = some ⟨[.long, .long, .long], none⟩ := by decide +kernel
theorem pd_2 : parseMethodDescriptor "(Lcom/example/mini_queue/miniqueue/CostCounters;)Lcom/example/mini_queue/miniqueue/CostCounters;" = some ⟨[(.object "com/example/mini_queue/miniqueue/CostCounters")], some (.object "com/example/mini_queue/miniqueue/CostCounters")⟩ := by decide +kernel
theorem pd_3 : parseMethodDescriptor "()J" = some ⟨[], some .long⟩ := by decide +kernel
theorem ef_2 (m : MethodId) (x0 : Addr) : entryFrame m #[(.ref x0)] 1 = mkF m 0 #[.val (.ref x0)] [] := by first | (simp [entryFrame, mkF, argsToLocals, Value.category]; done) | rfl
def Q2 (Z : State) (a1 : Addr) (h0 : Heap) (n0 : Nat) (v : Option Value) (h : Heap) (L : List Loc) : Prop := v = none ∧ Fr n0 L ∧ h = h0
set_option maxRecDepth 65536 in
set_option maxHeartbeats 40000000 in
theorem rm2 (l : Launch) (Z : State) (a0 : Array Value) (hw : ∀ d ∈ tables_1, d.before a0 Z = true) (ws : List Jvm.Cond) (a1 : Addr) (h0 : Heap) (n0 : Nat) (Z0 : n0 ≤ h0.size) :
    MetFree l (⟨"java/lang/Record", "<init>", "()V"⟩ : MethodName) (head1 (Jvm.Cond.code (⟨"java/lang/Record", "<init>", "()V"⟩ : MethodName) jdk_30_method_1_code 1 none :: ws) ({ frames := 1, cells := 0, slots := 0, locals := 12 } : Room)) (fun a U => a = #[(.ref a1)] ∧ Z.Warmed39 U.vm ∧ U.heap = h0) (fun _ _ _ _ _ => True) (fun _ U o U' => ∃ v L, o = .returned v ∧ Q2 Z a1 h0 n0 v U'.heap L ∧ FrameEnd U o U' L ({ frames := 1, cells := 0, slots := 0, locals := 12 } : Room).cells ({ frames := 1, cells := 0, slots := 0, locals := 12 } : Room).slots) := by
  refine MetFree.of_bodySF (plainFor_of_name pn_2) hisR ?_
  intro p e s m args below meth c s₁ Bd hml0 hP hK
  obtain ⟨rfl, hZ, hh⟩ := hP
  have hx := Bd.exec
  have hby := Bd.bytes
  have hml : c.maxLocals = 1 := hml0
  have hown : s.vm.findClass "java/lang/Record" = some m.cls := findClass_of_methodNamed Bd.named
  have hnm := (name_of_methodNamed Bd.named Bd.method).1
  have X0 : Stand p l e ({ frames := 1, cells := 0, slots := 0, locals := 12 } : Room) s m #[(.ref a1)] below meth c s₁ [] 0 0 := Stand.of_body Bd
  have e0 : s₁.heap = h0 := by rw [← hh, Bd.state]; rfl
  have N0 := Fr.nil n0
  show EndsQ p.tables e below s (fun v h L => Q2 Z a1 h0 n0 v h L) ({ frames := 1, cells := 0, slots := 0, locals := 12 } : Room).cells ({ frames := 1, cells := 0, slots := 0, locals := 12 } : Room).slots _
  refine EndsQ.go (b := s₁.setTop (mkF m 0 #[.val (.ref a1)] [])) (fun t k => castTop (ef_2 m a1) k) ?_
  refine EndsQ.go (b := s₁.setTop (mkF m 1 #[.val (.ref a1)] [(.ref a1)])) (fun t k => ?_) ?_
  · show Steps p.tables e below (s₁.setTop (mkF m 0 #[.val (.ref a1)] [])) _
    refine XS.aloadN X0.here hx rfl (hb hby d2_0) rfl rfl ?_
    show Steps p.tables e below (s₁.setTop (mkF m 1 #[.val (.ref a1)] [(.ref a1)])) _
    exact k
  obtain ⟨T101, X101, e101, st101⟩ := initO X0 hx hZ hown (hw _ (List.mem_of_getElem? (i := 11) rfl)) (hw _ (List.mem_of_getElem? (i := 12) rfl)) (hw _ (List.mem_of_getElem? (i := 13) rfl)) e0 (g := (mkF m 1 #[.val (.ref a1)] [(.ref a1)])) rfl (by rw [hml]; rfl) rfl (hb hby d2_1) (by decide) (W := 0) (by show 2 * 0 + _ ≤ _; exact Nat.le_of_eq rfl) (by decide)
  refine EndsQ.go st101 ?_
  show EndsQ _ _ _ _ _ _ _ (T101.setTop (mkF m 4 #[.val (.ref a1)] []))
  refine EndsQ.retV X101 hx Bd.notSynchronized Bd.returns (hb hby d2_4) (by decide) (by decide) ?_
  show Q2 Z a1 h0 n0 (none) T101.heap _
  rw [e101]
  exact ⟨rfl, N0, rfl⟩
theorem ef_1 (m : MethodId) (x0 : Addr) (x1 : Int64) (x2 : Int64) (x3 : Int64) : entryFrame m #[(.ref x0), (.long x1), (.long x2), (.long x3)] 7 = mkF m 0 #[.val (.ref x0), .val (.long x1), .second, .val (.long x2), .second, .val (.long x3), .second] [] := by first | (simp [entryFrame, mkF, argsToLocals, Value.category]; done) | rfl
def Q1 (Z : State) (a1 : Addr) (q2 : Int64) (q3 : Int64) (q4 : Int64) (h0 : Heap) (n0 : Nat) (v : Option Value) (h : Heap) (L : List Loc) : Prop := v = none ∧ Fr n0 L ∧ Keep h0 h [a1] ∧ Exa Z h a1 "com/example/mini_queue/miniqueue/CostCounters" ∧ Fld Z h a1 "com/example/mini_queue/miniqueue/CostCounters" "walBytes" "J" (.long q2) ∧ Fld Z h a1 "com/example/mini_queue/miniqueue/CostCounters" "jobsBuffers" "J" (.long q3) ∧ Fld Z h a1 "com/example/mini_queue/miniqueue/CostCounters" "jobsRowVersions" "J" (.long q4)
set_option maxRecDepth 65536 in
set_option maxHeartbeats 40000000 in
theorem rm1 (l : Launch) (Z : State) (a0 : Array Value) (hw : ∀ d ∈ tables_1, d.before a0 Z = true) (ws : List Jvm.Cond) (a1 : Addr) (q2 : Int64) (q3 : Int64) (q4 : Int64) (h0 : Heap) (n0 : Nat) (Z0 : n0 ≤ h0.size) (F_walBytes : Fld Z h0 a1 "com/example/mini_queue/miniqueue/CostCounters" "walBytes" "J" (.long (0 : Int64))) (F_jobsBuffers : Fld Z h0 a1 "com/example/mini_queue/miniqueue/CostCounters" "jobsBuffers" "J" (.long (0 : Int64))) (F_jobsRowVersions : Fld Z h0 a1 "com/example/mini_queue/miniqueue/CostCounters" "jobsRowVersions" "J" (.long (0 : Int64))) (E1 : Exa Z h0 a1 "com/example/mini_queue/miniqueue/CostCounters") (g1 : n0 ≤ a1) :
    MetFree l (⟨"com/example/mini_queue/miniqueue/CostCounters", "<init>", "(JJJ)V"⟩ : MethodName) (head1 (Jvm.Cond.code (⟨"com/example/mini_queue/miniqueue/CostCounters", "<init>", "(JJJ)V"⟩ : MethodName) prog_2_method_1_code 7 none :: ws) ({ frames := 2, cells := 0, slots := 0, locals := 24 } : Room)) (fun a U => a = #[(.ref a1), (.long q2), (.long q3), (.long q4)] ∧ Z.Warmed39 U.vm ∧ U.heap = h0) (fun _ _ _ _ _ => True) (fun _ U o U' => ∃ v L, o = .returned v ∧ Q1 Z a1 q2 q3 q4 h0 n0 v U'.heap L ∧ FrameEnd U o U' L ({ frames := 2, cells := 0, slots := 0, locals := 24 } : Room).cells ({ frames := 2, cells := 0, slots := 0, locals := 24 } : Room).slots) := by
  refine MetFree.of_bodySF (plainFor_of_name pn_1) hisR ?_
  intro p e s m args below meth c s₁ Bd hml0 hP hK
  obtain ⟨rfl, hZ, hh⟩ := hP
  have hx := Bd.exec
  have hby := Bd.bytes
  have hml : c.maxLocals = 7 := hml0
  have hown : s.vm.findClass "com/example/mini_queue/miniqueue/CostCounters" = some m.cls := findClass_of_methodNamed Bd.named
  have hnm := (name_of_methodNamed Bd.named Bd.method).1
  have X0 : Stand p l e ({ frames := 2, cells := 0, slots := 0, locals := 24 } : Room) s m #[(.ref a1), (.long q2), (.long q3), (.long q4)] below meth c s₁ [] 0 0 := Stand.of_body Bd
  have e0 : s₁.heap = h0 := by rw [← hh, Bd.state]; rfl
  have N0 := Fr.nil n0
  show EndsQ p.tables e below s (fun v h L => Q1 Z a1 q2 q3 q4 h0 n0 v h L) ({ frames := 2, cells := 0, slots := 0, locals := 24 } : Room).cells ({ frames := 2, cells := 0, slots := 0, locals := 24 } : Room).slots _
  refine EndsQ.go (b := s₁.setTop (mkF m 0 #[.val (.ref a1), .val (.long q2), .second, .val (.long q3), .second, .val (.long q4), .second] [])) (fun t k => castTop (ef_1 m a1 q2 q3 q4) k) ?_
  have K0 : Keep h0 h0 [a1] := Keep.refl _ _
  refine EndsQ.go (b := s₁.setTop (mkF m 1 #[.val (.ref a1), .val (.long q2), .second, .val (.long q3), .second, .val (.long q4), .second] [(.ref a1)])) (fun t k => ?_) ?_
  · show Steps p.tables e below (s₁.setTop (mkF m 0 #[.val (.ref a1), .val (.long q2), .second, .val (.long q3), .second, .val (.long q4), .second] [])) _
    refine XS.aloadN X0.here hx rfl (hb hby d1_0) rfl rfl ?_
    show Steps p.tables e below (s₁.setTop (mkF m 1 #[.val (.ref a1), .val (.long q2), .second, .val (.long q3), .second, .val (.long q4), .second] [(.ref a1)])) _
    exact k
  obtain ⟨_, _, ⟨T101, L101, kk101, nn101⟩, -, X101, ⟨Lc101, hQ101, l101, y101, z101⟩, st101⟩ := X0.specialBack hx (y := (⟨"java/lang/Record", "<init>", "()V"⟩ : MethodName)) rfl hown (mvT hZ (hw _ (List.mem_of_getElem? (i := 6) rfl))) (mvT hZ (hw _ (List.mem_of_getElem? (i := 7) rfl))) (mvT hZ (hw _ (List.mem_of_getElem? (i := 10) rfl))) (by decide) (backOf (W := 0) (rm2 l Z a0 hw [] a1 h0 n0 Z0 ) hZ (hw _ (List.mem_of_getElem? (i := 10) rfl)) (hw _ (List.mem_of_getElem? (i := 9) rfl)) (by decide) (by decide)) (g := (mkF m 1 #[.val (.ref a1), .val (.long q2), .second, .val (.long q3), .second, .val (.long q4), .second] [(.ref a1)])) rfl (by rw [hml]; rfl) (Steps.refl _) (a := a1) (argsL := []) (rest := []) (lenOf pd_0 rfl) rfl (by show 2 * 0 + _ ≤ _; exact Nat.le_of_eq rfl) (hb hby d1_1) (fun _ _ => ⟨rfl, e0, (by decide : 0 + 0 ≤ _), (by decide : 0 + 0 ≤ _)⟩)
  dsimp only [Pt.U, Pt.locs, Pt.cells, Pt.slots] at X101 l101 y101 z101 st101 hQ101
  subst l101 y101 z101
  obtain ⟨rfl, Nq101, eq101⟩ := hQ101
  have N101 := Fr.app N0 Nq101
  refine EndsQ.go (fun t k => st101.trans k) ?_
  show EndsQ _ _ _ _ _ _ _ (T101.setTop (mkF m 4 #[.val (.ref a1), .val (.long q2), .second, .val (.long q3), .second, .val (.long q4), .second] []))
  refine EndsQ.go (b := T101.setTop (mkF m 6 #[.val (.ref a1), .val (.long q2), .second, .val (.long q3), .second, .val (.long q4), .second] [(.long q2), (.ref a1)])) (fun t k => ?_) ?_
  · show Steps p.tables e below (T101.setTop (mkF m 4 #[.val (.ref a1), .val (.long q2), .second, .val (.long q3), .second, .val (.long q4), .second] [])) _
    refine XS.aloadN X101.here hx rfl (hb hby d1_4) rfl rfl ?_
    show Steps p.tables e below (T101.setTop (mkF m 5 #[.val (.ref a1), .val (.long q2), .second, .val (.long q3), .second, .val (.long q4), .second] [(.ref a1)])) _
    refine XS.lloadN X101.here hx rfl (hb hby d1_5) rfl ?_
    show Steps p.tables e below (T101.setTop (mkF m 6 #[.val (.ref a1), .val (.long q2), .second, .val (.long q3), .second, .val (.long q4), .second] [(.long q2), (.ref a1)])) _
    exact k
  obtain ⟨T102, h102, X102, e102, W102, st102⟩ := putF X101 hx hZ hown (host := "") (Or.inl (hw _ (List.mem_of_getElem? (i := 14) rfl))) Via.refl eq101 F_walBytes E1 (Or.inr ⟨(hw _ (List.mem_of_getElem? (i := 15) rfl)), rfl, hnm⟩) (hw _ (List.mem_of_getElem? (i := 1) rfl)) (ty := .long) (by decide) rfl rfl (g := (mkF m 6 #[.val (.ref a1), .val (.long q2), .second, .val (.long q3), .second, .val (.long q4), .second] [(.long q2), (.ref a1)])) rfl rfl (hb hby d1_6)
  have fw102 : Fld Z h102 a1 "com/example/mini_queue/miniqueue/CostCounters" "walBytes" "J" (.long q2) := F_walBytes.same W102
  have f103 : Exa Z h102 a1 "com/example/mini_queue/miniqueue/CostCounters" := E1.wr W102
  have f104 : Fld Z h102 a1 "com/example/mini_queue/miniqueue/CostCounters" "jobsBuffers" "J" (.long (0 : Int64)) := F_jobsBuffers.other W102 (Or.inr (slot_ne (Or.inr (hw _ (List.mem_of_getElem? (i := 17) rfl))) (Or.inr (hw _ (List.mem_of_getElem? (i := 15) rfl))) (by decide) (t := .long) (t' := .long) (by decide) (by decide)))
  have f105 : Fld Z h102 a1 "com/example/mini_queue/miniqueue/CostCounters" "jobsRowVersions" "J" (.long (0 : Int64)) := F_jobsRowVersions.other W102 (Or.inr (slot_ne (Or.inr (hw _ (List.mem_of_getElem? (i := 19) rfl))) (Or.inr (hw _ (List.mem_of_getElem? (i := 15) rfl))) (by decide) (t := .long) (t' := .long) (by decide) (by decide)))
  have f106 : n0 ≤ h102.size := Nat.le_trans Z0 (Keep.of_wr W102).1
  have f107 : Keep h0 h102 [a1] := K0.wr W102 (Or.inl (List.mem_of_getElem? (i := 0) rfl))
  have N102 := Fr.snoc X102 N101 g1
  refine EndsQ.go st102 ?_
  show EndsQ _ _ _ _ _ _ _ (T102.setTop (mkF m 9 #[.val (.ref a1), .val (.long q2), .second, .val (.long q3), .second, .val (.long q4), .second] []))
  refine EndsQ.go (b := T102.setTop (mkF m 11 #[.val (.ref a1), .val (.long q2), .second, .val (.long q3), .second, .val (.long q4), .second] [(.long q3), (.ref a1)])) (fun t k => ?_) ?_
  · show Steps p.tables e below (T102.setTop (mkF m 9 #[.val (.ref a1), .val (.long q2), .second, .val (.long q3), .second, .val (.long q4), .second] [])) _
    refine XS.aloadN X102.here hx rfl (hb hby d1_9) rfl rfl ?_
    show Steps p.tables e below (T102.setTop (mkF m 10 #[.val (.ref a1), .val (.long q2), .second, .val (.long q3), .second, .val (.long q4), .second] [(.ref a1)])) _
    refine XS.lloadN X102.here hx rfl (hb hby d1_10) rfl ?_
    show Steps p.tables e below (T102.setTop (mkF m 11 #[.val (.ref a1), .val (.long q2), .second, .val (.long q3), .second, .val (.long q4), .second] [(.long q3), (.ref a1)])) _
    exact k
  obtain ⟨T108, h108, X108, e108, W108, st108⟩ := putF X102 hx hZ hown (host := "") (Or.inl (hw _ (List.mem_of_getElem? (i := 16) rfl))) Via.refl e102 f104 f103 (Or.inr ⟨(hw _ (List.mem_of_getElem? (i := 17) rfl)), rfl, hnm⟩) (hw _ (List.mem_of_getElem? (i := 1) rfl)) (ty := .long) (by decide) rfl rfl (g := (mkF m 11 #[.val (.ref a1), .val (.long q2), .second, .val (.long q3), .second, .val (.long q4), .second] [(.long q3), (.ref a1)])) rfl rfl (hb hby d1_11)
  have fw108 : Fld Z h108 a1 "com/example/mini_queue/miniqueue/CostCounters" "jobsBuffers" "J" (.long q3) := f104.same W108
  have f109 : Exa Z h108 a1 "com/example/mini_queue/miniqueue/CostCounters" := f103.wr W108
  have f110 : Fld Z h108 a1 "com/example/mini_queue/miniqueue/CostCounters" "jobsRowVersions" "J" (.long (0 : Int64)) := f105.other W108 (Or.inr (slot_ne (Or.inr (hw _ (List.mem_of_getElem? (i := 19) rfl))) (Or.inr (hw _ (List.mem_of_getElem? (i := 17) rfl))) (by decide) (t := .long) (t' := .long) (by decide) (by decide)))
  have f111 : n0 ≤ h108.size := Nat.le_trans f106 (Keep.of_wr W108).1
  have f112 : Keep h0 h108 [a1] := f107.wr W108 (Or.inl (List.mem_of_getElem? (i := 0) rfl))
  have f113 : Fld Z h108 a1 "com/example/mini_queue/miniqueue/CostCounters" "walBytes" "J" (.long q2) := fw102.other W108 (Or.inr (slot_ne (Or.inr (hw _ (List.mem_of_getElem? (i := 15) rfl))) (Or.inr (hw _ (List.mem_of_getElem? (i := 17) rfl))) (by decide) (t := .long) (t' := .long) (by decide) (by decide)))
  have N108 := Fr.snoc X108 N102 g1
  refine EndsQ.go st108 ?_
  show EndsQ _ _ _ _ _ _ _ (T108.setTop (mkF m 14 #[.val (.ref a1), .val (.long q2), .second, .val (.long q3), .second, .val (.long q4), .second] []))
  refine EndsQ.go (b := T108.setTop (mkF m 17 #[.val (.ref a1), .val (.long q2), .second, .val (.long q3), .second, .val (.long q4), .second] [(.long q4), (.ref a1)])) (fun t k => ?_) ?_
  · show Steps p.tables e below (T108.setTop (mkF m 14 #[.val (.ref a1), .val (.long q2), .second, .val (.long q3), .second, .val (.long q4), .second] [])) _
    refine XS.aloadN X108.here hx rfl (hb hby d1_14) rfl rfl ?_
    show Steps p.tables e below (T108.setTop (mkF m 15 #[.val (.ref a1), .val (.long q2), .second, .val (.long q3), .second, .val (.long q4), .second] [(.ref a1)])) _
    refine XS.lload X108.here hx rfl (hb hby d1_15) rfl ?_
    show Steps p.tables e below (T108.setTop (mkF m 17 #[.val (.ref a1), .val (.long q2), .second, .val (.long q3), .second, .val (.long q4), .second] [(.long q4), (.ref a1)])) _
    exact k
  obtain ⟨T114, h114, X114, e114, W114, st114⟩ := putF X108 hx hZ hown (host := "") (Or.inl (hw _ (List.mem_of_getElem? (i := 18) rfl))) Via.refl e108 f110 f109 (Or.inr ⟨(hw _ (List.mem_of_getElem? (i := 19) rfl)), rfl, hnm⟩) (hw _ (List.mem_of_getElem? (i := 1) rfl)) (ty := .long) (by decide) rfl rfl (g := (mkF m 17 #[.val (.ref a1), .val (.long q2), .second, .val (.long q3), .second, .val (.long q4), .second] [(.long q4), (.ref a1)])) rfl rfl (hb hby d1_17)
  have fw114 : Fld Z h114 a1 "com/example/mini_queue/miniqueue/CostCounters" "jobsRowVersions" "J" (.long q4) := f110.same W114
  have f115 : Exa Z h114 a1 "com/example/mini_queue/miniqueue/CostCounters" := f109.wr W114
  have f116 : n0 ≤ h114.size := Nat.le_trans f111 (Keep.of_wr W114).1
  have f117 : Keep h0 h114 [a1] := f112.wr W114 (Or.inl (List.mem_of_getElem? (i := 0) rfl))
  have f118 : Fld Z h114 a1 "com/example/mini_queue/miniqueue/CostCounters" "walBytes" "J" (.long q2) := f113.other W114 (Or.inr (slot_ne (Or.inr (hw _ (List.mem_of_getElem? (i := 15) rfl))) (Or.inr (hw _ (List.mem_of_getElem? (i := 19) rfl))) (by decide) (t := .long) (t' := .long) (by decide) (by decide)))
  have f119 : Fld Z h114 a1 "com/example/mini_queue/miniqueue/CostCounters" "jobsBuffers" "J" (.long q3) := fw108.other W114 (Or.inr (slot_ne (Or.inr (hw _ (List.mem_of_getElem? (i := 17) rfl))) (Or.inr (hw _ (List.mem_of_getElem? (i := 19) rfl))) (by decide) (t := .long) (t' := .long) (by decide) (by decide)))
  have N114 := Fr.snoc X114 N108 g1
  refine EndsQ.go st114 ?_
  show EndsQ _ _ _ _ _ _ _ (T114.setTop (mkF m 20 #[.val (.ref a1), .val (.long q2), .second, .val (.long q3), .second, .val (.long q4), .second] []))
  refine EndsQ.retV X114 hx Bd.notSynchronized Bd.returns (hb hby d1_20) (by decide) (by decide) ?_
  show Q1 Z a1 q2 q3 q4 h0 n0 (none) T114.heap _
  rw [e114]
  exact ⟨rfl, N114, f117, f115, f118, f119, fw114⟩
theorem ef_4 (m : MethodId) (x0 : Addr) (x1 : Addr) : entryFrame m #[(.ref x0), (.ref x1)] 2 = mkF m 0 #[.val (.ref x0), .val (.ref x1)] [] := by first | (simp [entryFrame, mkF, argsToLocals, Value.category]; done) | rfl
def Q4 (Z : State) (a1 : Addr) (a2 : Addr) (x0 : Int64) (x1 : Int64) (x2 : Int64) (y0 : Int64) (y1 : Int64) (y2 : Int64) (h0 : Heap) (n0 : Nat) (v : Option Value) (h : Heap) (L : List Loc) : Prop := ∃ b : Addr, v = some (.ref b) ∧ Fr n0 L ∧ Keep h0 h [] ∧ n0 ≤ b ∧ h0.size ≤ b ∧ Exa Z h b "com/example/mini_queue/miniqueue/CostCounters" ∧ Fld Z h b "com/example/mini_queue/miniqueue/CostCounters" "walBytes" "J" (.long (x0 - y0)) ∧ Fld Z h b "com/example/mini_queue/miniqueue/CostCounters" "jobsBuffers" "J" (.long (x1 - y1)) ∧ Fld Z h b "com/example/mini_queue/miniqueue/CostCounters" "jobsRowVersions" "J" (.long (x2 - y2))
set_option maxRecDepth 65536 in
set_option maxHeartbeats 40000000 in
theorem rm4 (l : Launch) (Z : State) (a0 : Array Value) (hw : ∀ d ∈ tables_1, d.before a0 Z = true) (ws : List Jvm.Cond) (a1 : Addr) (a2 : Addr) (x0 : Int64) (x1 : Int64) (x2 : Int64) (y0 : Int64) (y1 : Int64) (y2 : Int64) (h0 : Heap) (n0 : Nat) (Z0 : n0 ≤ h0.size) (E1 : Exa Z h0 a1 "com/example/mini_queue/miniqueue/CostCounters") (E2 : Exa Z h0 a2 "com/example/mini_queue/miniqueue/CostCounters") (F1_walBytes : Fld Z h0 a1 "com/example/mini_queue/miniqueue/CostCounters" "walBytes" "J" (.long x0)) (F1_jobsBuffers : Fld Z h0 a1 "com/example/mini_queue/miniqueue/CostCounters" "jobsBuffers" "J" (.long x1)) (F1_jobsRowVersions : Fld Z h0 a1 "com/example/mini_queue/miniqueue/CostCounters" "jobsRowVersions" "J" (.long x2)) (F2_walBytes : Fld Z h0 a2 "com/example/mini_queue/miniqueue/CostCounters" "walBytes" "J" (.long y0)) (F2_jobsBuffers : Fld Z h0 a2 "com/example/mini_queue/miniqueue/CostCounters" "jobsBuffers" "J" (.long y1)) (F2_jobsRowVersions : Fld Z h0 a2 "com/example/mini_queue/miniqueue/CostCounters" "jobsRowVersions" "J" (.long y2)) :
    MetFree l (⟨"com/example/mini_queue/miniqueue/CostCounters", "since", "(Lcom/example/mini_queue/miniqueue/CostCounters;)Lcom/example/mini_queue/miniqueue/CostCounters;"⟩ : MethodName) (head1 (Jvm.Cond.code (⟨"com/example/mini_queue/miniqueue/CostCounters", "since", "(Lcom/example/mini_queue/miniqueue/CostCounters;)Lcom/example/mini_queue/miniqueue/CostCounters;"⟩ : MethodName) prog_2_method_2_code 2 (some (.object "com/example/mini_queue/miniqueue/CostCounters")) :: ws) ({ frames := 3, cells := 1, slots := 3, locals := 64 } : Room)) (fun a U => a = #[(.ref a1), (.ref a2)] ∧ Z.Warmed39 U.vm ∧ U.heap = h0) (fun _ _ _ _ _ => True) (fun _ U o U' => ∃ v L, o = .returned v ∧ Q4 Z a1 a2 x0 x1 x2 y0 y1 y2 h0 n0 v U'.heap L ∧ FrameEnd U o U' L ({ frames := 3, cells := 1, slots := 3, locals := 64 } : Room).cells ({ frames := 3, cells := 1, slots := 3, locals := 64 } : Room).slots) := by
  refine MetFree.of_bodySF (plainFor_of_name pn_4) hisR ?_
  intro p e s m args below meth c s₁ Bd hml0 hP hK
  obtain ⟨rfl, hZ, hh⟩ := hP
  have hx := Bd.exec
  have hby := Bd.bytes
  have hml : c.maxLocals = 2 := hml0
  have hown : s.vm.findClass "com/example/mini_queue/miniqueue/CostCounters" = some m.cls := findClass_of_methodNamed Bd.named
  have hnm := (name_of_methodNamed Bd.named Bd.method).1
  have X0 : Stand p l e ({ frames := 3, cells := 1, slots := 3, locals := 64 } : Room) s m #[(.ref a1), (.ref a2)] below meth c s₁ [] 0 0 := Stand.of_body Bd
  have e0 : s₁.heap = h0 := by rw [← hh, Bd.state]; rfl
  have N0 := Fr.nil n0
  show EndsQ p.tables e below s (fun v h L => Q4 Z a1 a2 x0 x1 x2 y0 y1 y2 h0 n0 v h L) ({ frames := 3, cells := 1, slots := 3, locals := 64 } : Room).cells ({ frames := 3, cells := 1, slots := 3, locals := 64 } : Room).slots _
  refine EndsQ.go (b := s₁.setTop (mkF m 0 #[.val (.ref a1), .val (.ref a2)] [])) (fun t k => castTop (ef_4 m a1 a2) k) ?_
  have K0 : Keep h0 h0 [] := Keep.refl _ _
  obtain ⟨T101, h101, X101, e101, E101, A101, D101, -, st101⟩ := newO X0 hx hZ hown (hw _ (List.mem_of_getElem? (i := 25) rfl)) (hw _ (List.mem_of_getElem? (i := 1) rfl)) (hw _ (List.mem_of_getElem? (i := 2) rfl)) e0 (g := (mkF m 0 #[.val (.ref a1), .val (.ref a2)] [])) rfl (hb hby d4_0) (by decide) (by decide)
  obtain ⟨b101, g101⟩ : ∃ z, z = h0.size := ⟨_, rfl⟩
  rw [← g101] at A101 D101 st101
  have gn101 : n0 ≤ b101 := Nat.le_trans Z0 (Nat.le_of_eq g101.symm)
  have gh101 : h0.size ≤ b101 := Nat.le_trans K0.1 (Nat.le_of_eq g101.symm)
  have ne101_a1 : a1 ≠ b101 := Nat.ne_of_lt (Nat.lt_of_lt_of_le E1.lt (Nat.le_of_eq g101.symm))
  have ne101_a2 : a2 ≠ b101 := Nat.ne_of_lt (Nat.lt_of_lt_of_le E2.lt (Nat.le_of_eq g101.symm))
  have f102 : Exa Z h101 a1 "com/example/mini_queue/miniqueue/CostCounters" := E1.ext E101
  have f103 : Exa Z h101 a2 "com/example/mini_queue/miniqueue/CostCounters" := E2.ext E101
  have f104 : Fld Z h101 a1 "com/example/mini_queue/miniqueue/CostCounters" "walBytes" "J" (.long x0) := F1_walBytes.ext E101
  have f105 : Fld Z h101 a2 "com/example/mini_queue/miniqueue/CostCounters" "walBytes" "J" (.long y0) := F2_walBytes.ext E101
  have f106 : Fld Z h101 a1 "com/example/mini_queue/miniqueue/CostCounters" "jobsBuffers" "J" (.long x1) := F1_jobsBuffers.ext E101
  have f107 : Fld Z h101 a2 "com/example/mini_queue/miniqueue/CostCounters" "jobsBuffers" "J" (.long y1) := F2_jobsBuffers.ext E101
  have f108 : Fld Z h101 a1 "com/example/mini_queue/miniqueue/CostCounters" "jobsRowVersions" "J" (.long x2) := F1_jobsRowVersions.ext E101
  have f109 : Fld Z h101 a2 "com/example/mini_queue/miniqueue/CostCounters" "jobsRowVersions" "J" (.long y2) := F2_jobsRowVersions.ext E101
  have f110 : n0 ≤ h101.size := Nat.le_trans Z0 E101.1
  have f111 : Keep h0 h101 [] := K0.ext E101
  have f112 : Fld Z h101 b101 "com/example/mini_queue/miniqueue/CostCounters" "walBytes" "J" (.long (0 : Int64)) := D101 (Or.inr (hw _ (List.mem_of_getElem? (i := 15) rfl))) (ty := .long) (by decide)
  have f113 : Fld Z h101 b101 "com/example/mini_queue/miniqueue/CostCounters" "jobsBuffers" "J" (.long (0 : Int64)) := D101 (Or.inr (hw _ (List.mem_of_getElem? (i := 17) rfl))) (ty := .long) (by decide)
  have f114 : Fld Z h101 b101 "com/example/mini_queue/miniqueue/CostCounters" "jobsRowVersions" "J" (.long (0 : Int64)) := D101 (Or.inr (hw _ (List.mem_of_getElem? (i := 19) rfl))) (ty := .long) (by decide)
  refine EndsQ.go st101 ?_
  show EndsQ _ _ _ _ _ _ _ (T101.setTop (mkF m 3 #[.val (.ref a1), .val (.ref a2)] [(.ref b101)]))
  refine EndsQ.go (b := T101.setTop (mkF m 5 #[.val (.ref a1), .val (.ref a2)] [(.ref a1), (.ref b101), (.ref b101)])) (fun t k => ?_) ?_
  · show Steps p.tables e below (T101.setTop (mkF m 3 #[.val (.ref a1), .val (.ref a2)] [(.ref b101)])) _
    refine XS.dup X101.here hx rfl (hb hby d4_3) rfl rfl ?_
    show Steps p.tables e below (T101.setTop (mkF m 4 #[.val (.ref a1), .val (.ref a2)] [(.ref b101), (.ref b101)])) _
    refine XS.aloadN X101.here hx rfl (hb hby d4_4) rfl rfl ?_
    show Steps p.tables e below (T101.setTop (mkF m 5 #[.val (.ref a1), .val (.ref a2)] [(.ref a1), (.ref b101), (.ref b101)])) _
    exact k
  obtain ⟨T115, X115, e115, st115⟩ := getF X101 hx hZ hown (host := "") (Or.inl (hw _ (List.mem_of_getElem? (i := 14) rfl))) Via.refl e101 f104 (g := (mkF m 5 #[.val (.ref a1), .val (.ref a2)] [(.ref a1), (.ref b101), (.ref b101)])) rfl rfl (hb hby d4_5)
  refine EndsQ.go st115 ?_
  show EndsQ _ _ _ _ _ _ _ (T115.setTop (mkF m 8 #[.val (.ref a1), .val (.ref a2)] [(.long x0), (.ref b101), (.ref b101)]))
  refine EndsQ.go (b := T115.setTop (mkF m 9 #[.val (.ref a1), .val (.ref a2)] [(.ref a2), (.long x0), (.ref b101), (.ref b101)])) (fun t k => ?_) ?_
  · show Steps p.tables e below (T115.setTop (mkF m 8 #[.val (.ref a1), .val (.ref a2)] [(.long x0), (.ref b101), (.ref b101)])) _
    refine XS.aloadN X115.here hx rfl (hb hby d4_8) rfl rfl ?_
    show Steps p.tables e below (T115.setTop (mkF m 9 #[.val (.ref a1), .val (.ref a2)] [(.ref a2), (.long x0), (.ref b101), (.ref b101)])) _
    exact k
  obtain ⟨T116, X116, e116, st116⟩ := getF X115 hx hZ hown (host := "") (Or.inl (hw _ (List.mem_of_getElem? (i := 14) rfl))) Via.refl e115 f105 (g := (mkF m 9 #[.val (.ref a1), .val (.ref a2)] [(.ref a2), (.long x0), (.ref b101), (.ref b101)])) rfl rfl (hb hby d4_9)
  refine EndsQ.go st116 ?_
  show EndsQ _ _ _ _ _ _ _ (T116.setTop (mkF m 12 #[.val (.ref a1), .val (.ref a2)] [(.long y0), (.long x0), (.ref b101), (.ref b101)]))
  refine EndsQ.go (b := T116.setTop (mkF m 14 #[.val (.ref a1), .val (.ref a2)] [(.ref a1), (.long (x0 - y0)), (.ref b101), (.ref b101)])) (fun t k => ?_) ?_
  · show Steps p.tables e below (T116.setTop (mkF m 12 #[.val (.ref a1), .val (.ref a2)] [(.long y0), (.long x0), (.ref b101), (.ref b101)])) _
    refine XS.lsub X116.here hx rfl (hb hby d4_12) rfl ?_
    show Steps p.tables e below (T116.setTop (mkF m 13 #[.val (.ref a1), .val (.ref a2)] [(.long (x0 - y0)), (.ref b101), (.ref b101)])) _
    refine XS.aloadN X116.here hx rfl (hb hby d4_13) rfl rfl ?_
    show Steps p.tables e below (T116.setTop (mkF m 14 #[.val (.ref a1), .val (.ref a2)] [(.ref a1), (.long (x0 - y0)), (.ref b101), (.ref b101)])) _
    exact k
  obtain ⟨T117, X117, e117, st117⟩ := getF X116 hx hZ hown (host := "") (Or.inl (hw _ (List.mem_of_getElem? (i := 16) rfl))) Via.refl e116 f106 (g := (mkF m 14 #[.val (.ref a1), .val (.ref a2)] [(.ref a1), (.long (x0 - y0)), (.ref b101), (.ref b101)])) rfl rfl (hb hby d4_14)
  refine EndsQ.go st117 ?_
  show EndsQ _ _ _ _ _ _ _ (T117.setTop (mkF m 17 #[.val (.ref a1), .val (.ref a2)] [(.long x1), (.long (x0 - y0)), (.ref b101), (.ref b101)]))
  refine EndsQ.go (b := T117.setTop (mkF m 18 #[.val (.ref a1), .val (.ref a2)] [(.ref a2), (.long x1), (.long (x0 - y0)), (.ref b101), (.ref b101)])) (fun t k => ?_) ?_
  · show Steps p.tables e below (T117.setTop (mkF m 17 #[.val (.ref a1), .val (.ref a2)] [(.long x1), (.long (x0 - y0)), (.ref b101), (.ref b101)])) _
    refine XS.aloadN X117.here hx rfl (hb hby d4_17) rfl rfl ?_
    show Steps p.tables e below (T117.setTop (mkF m 18 #[.val (.ref a1), .val (.ref a2)] [(.ref a2), (.long x1), (.long (x0 - y0)), (.ref b101), (.ref b101)])) _
    exact k
  obtain ⟨T118, X118, e118, st118⟩ := getF X117 hx hZ hown (host := "") (Or.inl (hw _ (List.mem_of_getElem? (i := 16) rfl))) Via.refl e117 f107 (g := (mkF m 18 #[.val (.ref a1), .val (.ref a2)] [(.ref a2), (.long x1), (.long (x0 - y0)), (.ref b101), (.ref b101)])) rfl rfl (hb hby d4_18)
  refine EndsQ.go st118 ?_
  show EndsQ _ _ _ _ _ _ _ (T118.setTop (mkF m 21 #[.val (.ref a1), .val (.ref a2)] [(.long y1), (.long x1), (.long (x0 - y0)), (.ref b101), (.ref b101)]))
  refine EndsQ.go (b := T118.setTop (mkF m 23 #[.val (.ref a1), .val (.ref a2)] [(.ref a1), (.long (x1 - y1)), (.long (x0 - y0)), (.ref b101), (.ref b101)])) (fun t k => ?_) ?_
  · show Steps p.tables e below (T118.setTop (mkF m 21 #[.val (.ref a1), .val (.ref a2)] [(.long y1), (.long x1), (.long (x0 - y0)), (.ref b101), (.ref b101)])) _
    refine XS.lsub X118.here hx rfl (hb hby d4_21) rfl ?_
    show Steps p.tables e below (T118.setTop (mkF m 22 #[.val (.ref a1), .val (.ref a2)] [(.long (x1 - y1)), (.long (x0 - y0)), (.ref b101), (.ref b101)])) _
    refine XS.aloadN X118.here hx rfl (hb hby d4_22) rfl rfl ?_
    show Steps p.tables e below (T118.setTop (mkF m 23 #[.val (.ref a1), .val (.ref a2)] [(.ref a1), (.long (x1 - y1)), (.long (x0 - y0)), (.ref b101), (.ref b101)])) _
    exact k
  obtain ⟨T119, X119, e119, st119⟩ := getF X118 hx hZ hown (host := "") (Or.inl (hw _ (List.mem_of_getElem? (i := 18) rfl))) Via.refl e118 f108 (g := (mkF m 23 #[.val (.ref a1), .val (.ref a2)] [(.ref a1), (.long (x1 - y1)), (.long (x0 - y0)), (.ref b101), (.ref b101)])) rfl rfl (hb hby d4_23)
  refine EndsQ.go st119 ?_
  show EndsQ _ _ _ _ _ _ _ (T119.setTop (mkF m 26 #[.val (.ref a1), .val (.ref a2)] [(.long x2), (.long (x1 - y1)), (.long (x0 - y0)), (.ref b101), (.ref b101)]))
  refine EndsQ.go (b := T119.setTop (mkF m 27 #[.val (.ref a1), .val (.ref a2)] [(.ref a2), (.long x2), (.long (x1 - y1)), (.long (x0 - y0)), (.ref b101), (.ref b101)])) (fun t k => ?_) ?_
  · show Steps p.tables e below (T119.setTop (mkF m 26 #[.val (.ref a1), .val (.ref a2)] [(.long x2), (.long (x1 - y1)), (.long (x0 - y0)), (.ref b101), (.ref b101)])) _
    refine XS.aloadN X119.here hx rfl (hb hby d4_26) rfl rfl ?_
    show Steps p.tables e below (T119.setTop (mkF m 27 #[.val (.ref a1), .val (.ref a2)] [(.ref a2), (.long x2), (.long (x1 - y1)), (.long (x0 - y0)), (.ref b101), (.ref b101)])) _
    exact k
  obtain ⟨T120, X120, e120, st120⟩ := getF X119 hx hZ hown (host := "") (Or.inl (hw _ (List.mem_of_getElem? (i := 18) rfl))) Via.refl e119 f109 (g := (mkF m 27 #[.val (.ref a1), .val (.ref a2)] [(.ref a2), (.long x2), (.long (x1 - y1)), (.long (x0 - y0)), (.ref b101), (.ref b101)])) rfl rfl (hb hby d4_27)
  refine EndsQ.go st120 ?_
  show EndsQ _ _ _ _ _ _ _ (T120.setTop (mkF m 30 #[.val (.ref a1), .val (.ref a2)] [(.long y2), (.long x2), (.long (x1 - y1)), (.long (x0 - y0)), (.ref b101), (.ref b101)]))
  refine EndsQ.go (b := T120.setTop (mkF m 31 #[.val (.ref a1), .val (.ref a2)] [(.long (x2 - y2)), (.long (x1 - y1)), (.long (x0 - y0)), (.ref b101), (.ref b101)])) (fun t k => ?_) ?_
  · show Steps p.tables e below (T120.setTop (mkF m 30 #[.val (.ref a1), .val (.ref a2)] [(.long y2), (.long x2), (.long (x1 - y1)), (.long (x0 - y0)), (.ref b101), (.ref b101)])) _
    refine XS.lsub X120.here hx rfl (hb hby d4_30) rfl ?_
    show Steps p.tables e below (T120.setTop (mkF m 31 #[.val (.ref a1), .val (.ref a2)] [(.long (x2 - y2)), (.long (x1 - y1)), (.long (x0 - y0)), (.ref b101), (.ref b101)])) _
    exact k
  obtain ⟨_, _, ⟨T121, L121, kk121, nn121⟩, -, X121, ⟨Lc121, hQ121, l121, y121, z121⟩, st121⟩ := X120.specialBack hx (y := (⟨"com/example/mini_queue/miniqueue/CostCounters", "<init>", "(JJJ)V"⟩ : MethodName)) rfl hown (mvT hZ (hw _ (List.mem_of_getElem? (i := 26) rfl))) (mvT hZ (hw _ (List.mem_of_getElem? (i := 4) rfl))) (mvT hZ (hw _ (List.mem_of_getElem? (i := 5) rfl))) (by decide) (backOf (W := 1) (rm1 l Z a0 hw [] b101 (x0 - y0) (x1 - y1) (x2 - y2) h101 n0 f110 f112 f113 f114 A101 gn101 ) hZ (hw _ (List.mem_of_getElem? (i := 5) rfl)) (hw _ (List.mem_of_getElem? (i := 2) rfl)) (by decide) (by decide)) (g := (mkF m 31 #[.val (.ref a1), .val (.ref a2)] [(.long (x2 - y2)), (.long (x1 - y1)), (.long (x0 - y0)), (.ref b101), (.ref b101)])) rfl (by rw [hml]; rfl) (Steps.refl _) (a := b101) (argsL := [(.long (x0 - y0)), (.long (x1 - y1)), (.long (x2 - y2))]) (rest := [(.ref b101)]) (lenOf pd_1 rfl) rfl (by show 2 * 0 + _ ≤ _; exact Nat.le_of_eq rfl) (hb hby d4_31) (fun _ _ => ⟨rfl, e120, (by decide : 1 + 0 ≤ _), (by decide : 3 + 0 ≤ _)⟩)
  dsimp only [Pt.U, Pt.locs, Pt.cells, Pt.slots] at X121 l121 y121 z121 st121 hQ121
  subst l121 y121 z121
  obtain ⟨rfl, Nq121, K121, Ex121, F121_walBytes, F121_jobsBuffers, F121_jobsRowVersions⟩ := hQ121
  have N121 := Fr.app N0 Nq121
  have f122 : Exa Z T121.heap a1 "com/example/mini_queue/miniqueue/CostCounters" := f102.keep K121
  have f123 : Exa Z T121.heap a2 "com/example/mini_queue/miniqueue/CostCounters" := f103.keep K121
  have f124 : Fld Z T121.heap a1 "com/example/mini_queue/miniqueue/CostCounters" "walBytes" "J" (.long x0) := f104.keep K121 (ninS ne101_a1 nin0)
  have f125 : Fld Z T121.heap a2 "com/example/mini_queue/miniqueue/CostCounters" "walBytes" "J" (.long y0) := f105.keep K121 (ninS ne101_a2 nin0)
  have f126 : Fld Z T121.heap a1 "com/example/mini_queue/miniqueue/CostCounters" "jobsBuffers" "J" (.long x1) := f106.keep K121 (ninS ne101_a1 nin0)
  have f127 : Fld Z T121.heap a2 "com/example/mini_queue/miniqueue/CostCounters" "jobsBuffers" "J" (.long y1) := f107.keep K121 (ninS ne101_a2 nin0)
  have f128 : Fld Z T121.heap a1 "com/example/mini_queue/miniqueue/CostCounters" "jobsRowVersions" "J" (.long x2) := f108.keep K121 (ninS ne101_a1 nin0)
  have f129 : Fld Z T121.heap a2 "com/example/mini_queue/miniqueue/CostCounters" "jobsRowVersions" "J" (.long y2) := f109.keep K121 (ninS ne101_a2 nin0)
  have f130 : n0 ≤ T121.heap.size := Nat.le_trans f110 K121.1
  have f131 : Keep h0 T121.heap [] := f111.trans K121 (allS (Or.inr gh101) all0)
  refine EndsQ.go (fun t k => st121.trans k) ?_
  show EndsQ _ _ _ _ _ _ _ (T121.setTop (mkF m 34 #[.val (.ref a1), .val (.ref a2)] [(.ref b101)]))
  refine EndsQ.retA X121 hx Bd.notSynchronized (w := (.ref b101)) Bd.returns rfl rfl rfl (hb hby d4_34) (by decide) (by decide) ?_
  show Q4 Z a1 a2 x0 x1 x2 y0 y1 y2 h0 n0 (some (.ref b101)) T121.heap _
  exact ⟨b101, rfl, N121, f131, gn101, gh101, Ex121, F121_walBytes, F121_jobsBuffers, F121_jobsRowVersions⟩
theorem ef_5 (m : MethodId) (x0 : Addr) : entryFrame m #[(.ref x0)] 1 = mkF m 0 #[.val (.ref x0)] [] := by first | (simp [entryFrame, mkF, argsToLocals, Value.category]; done) | rfl
def Q5 (Z : State) (a1 : Addr) (b2 : Int64) (h0 : Heap) (n0 : Nat) (v : Option Value) (h : Heap) (L : List Loc) : Prop := v = some (.long b2) ∧ Fr n0 L ∧ h = h0
set_option maxRecDepth 65536 in
set_option maxHeartbeats 40000000 in
theorem rm5 (l : Launch) (Z : State) (a0 : Array Value) (hw : ∀ d ∈ tables_1, d.before a0 Z = true) (ws : List Jvm.Cond) (a1 : Addr) (b2 : Int64) (h0 : Heap) (n0 : Nat) (Z0 : n0 ≤ h0.size) (F1 : Fld Z h0 a1 "com/example/mini_queue/miniqueue/CostCounters" "walBytes" "J" (.long b2)) :
    MetFree l (⟨"com/example/mini_queue/miniqueue/CostCounters", "walBytes", "()J"⟩ : MethodName) (head1 (Jvm.Cond.code (⟨"com/example/mini_queue/miniqueue/CostCounters", "walBytes", "()J"⟩ : MethodName) prog_2_method_6_code 1 (some .long) :: ws) ({ frames := 0, cells := 0, slots := 0, locals := 0 } : Room)) (fun a U => a = #[(.ref a1)] ∧ Z.Warmed39 U.vm ∧ U.heap = h0) (fun _ _ _ _ _ => True) (fun _ U o U' => ∃ v L, o = .returned v ∧ Q5 Z a1 b2 h0 n0 v U'.heap L ∧ FrameEnd U o U' L ({ frames := 0, cells := 0, slots := 0, locals := 0 } : Room).cells ({ frames := 0, cells := 0, slots := 0, locals := 0 } : Room).slots) := by
  refine MetFree.of_bodySF (plainFor_of_name pn_5) hisR ?_
  intro p e s m args below meth c s₁ Bd hml0 hP hK
  obtain ⟨rfl, hZ, hh⟩ := hP
  have hx := Bd.exec
  have hby := Bd.bytes
  have hml : c.maxLocals = 1 := hml0
  have hown : s.vm.findClass "com/example/mini_queue/miniqueue/CostCounters" = some m.cls := findClass_of_methodNamed Bd.named
  have hnm := (name_of_methodNamed Bd.named Bd.method).1
  have X0 : Stand p l e ({ frames := 0, cells := 0, slots := 0, locals := 0 } : Room) s m #[(.ref a1)] below meth c s₁ [] 0 0 := Stand.of_body Bd
  have e0 : s₁.heap = h0 := by rw [← hh, Bd.state]; rfl
  have N0 := Fr.nil n0
  show EndsQ p.tables e below s (fun v h L => Q5 Z a1 b2 h0 n0 v h L) ({ frames := 0, cells := 0, slots := 0, locals := 0 } : Room).cells ({ frames := 0, cells := 0, slots := 0, locals := 0 } : Room).slots _
  refine EndsQ.go (b := s₁.setTop (mkF m 0 #[.val (.ref a1)] [])) (fun t k => castTop (ef_5 m a1) k) ?_
  refine EndsQ.go (b := s₁.setTop (mkF m 1 #[.val (.ref a1)] [(.ref a1)])) (fun t k => ?_) ?_
  · show Steps p.tables e below (s₁.setTop (mkF m 0 #[.val (.ref a1)] [])) _
    refine XS.aloadN X0.here hx rfl (hb hby d5_0) rfl rfl ?_
    show Steps p.tables e below (s₁.setTop (mkF m 1 #[.val (.ref a1)] [(.ref a1)])) _
    exact k
  obtain ⟨T101, X101, e101, st101⟩ := getF X0 hx hZ hown (host := "") (Or.inl (hw _ (List.mem_of_getElem? (i := 14) rfl))) Via.refl e0 F1 (g := (mkF m 1 #[.val (.ref a1)] [(.ref a1)])) rfl rfl (hb hby d5_1)
  refine EndsQ.go st101 ?_
  show EndsQ _ _ _ _ _ _ _ (T101.setTop (mkF m 4 #[.val (.ref a1)] [(.long b2)]))
  refine EndsQ.retJ X101 hx Bd.notSynchronized Bd.returns (hb hby d5_4) (by decide) (by decide) ?_
  show Q5 Z a1 b2 h0 n0 (some (.long b2)) T101.heap _
  rw [e101]
  exact ⟨rfl, N0, rfl⟩
theorem ef_6 (m : MethodId) (x0 : Addr) : entryFrame m #[(.ref x0)] 1 = mkF m 0 #[.val (.ref x0)] [] := by first | (simp [entryFrame, mkF, argsToLocals, Value.category]; done) | rfl
def Q6 (Z : State) (a1 : Addr) (b2 : Int64) (h0 : Heap) (n0 : Nat) (v : Option Value) (h : Heap) (L : List Loc) : Prop := v = some (.long b2) ∧ Fr n0 L ∧ h = h0
set_option maxRecDepth 65536 in
set_option maxHeartbeats 40000000 in
theorem rm6 (l : Launch) (Z : State) (a0 : Array Value) (hw : ∀ d ∈ tables_1, d.before a0 Z = true) (ws : List Jvm.Cond) (a1 : Addr) (b2 : Int64) (h0 : Heap) (n0 : Nat) (Z0 : n0 ≤ h0.size) (F1 : Fld Z h0 a1 "com/example/mini_queue/miniqueue/CostCounters" "jobsBuffers" "J" (.long b2)) :
    MetFree l (⟨"com/example/mini_queue/miniqueue/CostCounters", "jobsBuffers", "()J"⟩ : MethodName) (head1 (Jvm.Cond.code (⟨"com/example/mini_queue/miniqueue/CostCounters", "jobsBuffers", "()J"⟩ : MethodName) prog_2_method_7_code 1 (some .long) :: ws) ({ frames := 0, cells := 0, slots := 0, locals := 0 } : Room)) (fun a U => a = #[(.ref a1)] ∧ Z.Warmed39 U.vm ∧ U.heap = h0) (fun _ _ _ _ _ => True) (fun _ U o U' => ∃ v L, o = .returned v ∧ Q6 Z a1 b2 h0 n0 v U'.heap L ∧ FrameEnd U o U' L ({ frames := 0, cells := 0, slots := 0, locals := 0 } : Room).cells ({ frames := 0, cells := 0, slots := 0, locals := 0 } : Room).slots) := by
  refine MetFree.of_bodySF (plainFor_of_name pn_6) hisR ?_
  intro p e s m args below meth c s₁ Bd hml0 hP hK
  obtain ⟨rfl, hZ, hh⟩ := hP
  have hx := Bd.exec
  have hby := Bd.bytes
  have hml : c.maxLocals = 1 := hml0
  have hown : s.vm.findClass "com/example/mini_queue/miniqueue/CostCounters" = some m.cls := findClass_of_methodNamed Bd.named
  have hnm := (name_of_methodNamed Bd.named Bd.method).1
  have X0 : Stand p l e ({ frames := 0, cells := 0, slots := 0, locals := 0 } : Room) s m #[(.ref a1)] below meth c s₁ [] 0 0 := Stand.of_body Bd
  have e0 : s₁.heap = h0 := by rw [← hh, Bd.state]; rfl
  have N0 := Fr.nil n0
  show EndsQ p.tables e below s (fun v h L => Q6 Z a1 b2 h0 n0 v h L) ({ frames := 0, cells := 0, slots := 0, locals := 0 } : Room).cells ({ frames := 0, cells := 0, slots := 0, locals := 0 } : Room).slots _
  refine EndsQ.go (b := s₁.setTop (mkF m 0 #[.val (.ref a1)] [])) (fun t k => castTop (ef_6 m a1) k) ?_
  refine EndsQ.go (b := s₁.setTop (mkF m 1 #[.val (.ref a1)] [(.ref a1)])) (fun t k => ?_) ?_
  · show Steps p.tables e below (s₁.setTop (mkF m 0 #[.val (.ref a1)] [])) _
    refine XS.aloadN X0.here hx rfl (hb hby d6_0) rfl rfl ?_
    show Steps p.tables e below (s₁.setTop (mkF m 1 #[.val (.ref a1)] [(.ref a1)])) _
    exact k
  obtain ⟨T101, X101, e101, st101⟩ := getF X0 hx hZ hown (host := "") (Or.inl (hw _ (List.mem_of_getElem? (i := 16) rfl))) Via.refl e0 F1 (g := (mkF m 1 #[.val (.ref a1)] [(.ref a1)])) rfl rfl (hb hby d6_1)
  refine EndsQ.go st101 ?_
  show EndsQ _ _ _ _ _ _ _ (T101.setTop (mkF m 4 #[.val (.ref a1)] [(.long b2)]))
  refine EndsQ.retJ X101 hx Bd.notSynchronized Bd.returns (hb hby d6_4) (by decide) (by decide) ?_
  show Q6 Z a1 b2 h0 n0 (some (.long b2)) T101.heap _
  rw [e101]
  exact ⟨rfl, N0, rfl⟩
theorem ef_7 (m : MethodId) (x0 : Addr) : entryFrame m #[(.ref x0)] 1 = mkF m 0 #[.val (.ref x0)] [] := by first | (simp [entryFrame, mkF, argsToLocals, Value.category]; done) | rfl
def Q7 (Z : State) (a1 : Addr) (b2 : Int64) (h0 : Heap) (n0 : Nat) (v : Option Value) (h : Heap) (L : List Loc) : Prop := v = some (.long b2) ∧ Fr n0 L ∧ h = h0
set_option maxRecDepth 65536 in
set_option maxHeartbeats 40000000 in
theorem rm7 (l : Launch) (Z : State) (a0 : Array Value) (hw : ∀ d ∈ tables_1, d.before a0 Z = true) (ws : List Jvm.Cond) (a1 : Addr) (b2 : Int64) (h0 : Heap) (n0 : Nat) (Z0 : n0 ≤ h0.size) (F1 : Fld Z h0 a1 "com/example/mini_queue/miniqueue/CostCounters" "jobsRowVersions" "J" (.long b2)) :
    MetFree l (⟨"com/example/mini_queue/miniqueue/CostCounters", "jobsRowVersions", "()J"⟩ : MethodName) (head1 (Jvm.Cond.code (⟨"com/example/mini_queue/miniqueue/CostCounters", "jobsRowVersions", "()J"⟩ : MethodName) prog_2_method_8_code 1 (some .long) :: ws) ({ frames := 0, cells := 0, slots := 0, locals := 0 } : Room)) (fun a U => a = #[(.ref a1)] ∧ Z.Warmed39 U.vm ∧ U.heap = h0) (fun _ _ _ _ _ => True) (fun _ U o U' => ∃ v L, o = .returned v ∧ Q7 Z a1 b2 h0 n0 v U'.heap L ∧ FrameEnd U o U' L ({ frames := 0, cells := 0, slots := 0, locals := 0 } : Room).cells ({ frames := 0, cells := 0, slots := 0, locals := 0 } : Room).slots) := by
  refine MetFree.of_bodySF (plainFor_of_name pn_7) hisR ?_
  intro p e s m args below meth c s₁ Bd hml0 hP hK
  obtain ⟨rfl, hZ, hh⟩ := hP
  have hx := Bd.exec
  have hby := Bd.bytes
  have hml : c.maxLocals = 1 := hml0
  have hown : s.vm.findClass "com/example/mini_queue/miniqueue/CostCounters" = some m.cls := findClass_of_methodNamed Bd.named
  have hnm := (name_of_methodNamed Bd.named Bd.method).1
  have X0 : Stand p l e ({ frames := 0, cells := 0, slots := 0, locals := 0 } : Room) s m #[(.ref a1)] below meth c s₁ [] 0 0 := Stand.of_body Bd
  have e0 : s₁.heap = h0 := by rw [← hh, Bd.state]; rfl
  have N0 := Fr.nil n0
  show EndsQ p.tables e below s (fun v h L => Q7 Z a1 b2 h0 n0 v h L) ({ frames := 0, cells := 0, slots := 0, locals := 0 } : Room).cells ({ frames := 0, cells := 0, slots := 0, locals := 0 } : Room).slots _
  refine EndsQ.go (b := s₁.setTop (mkF m 0 #[.val (.ref a1)] [])) (fun t k => castTop (ef_7 m a1) k) ?_
  refine EndsQ.go (b := s₁.setTop (mkF m 1 #[.val (.ref a1)] [(.ref a1)])) (fun t k => ?_) ?_
  · show Steps p.tables e below (s₁.setTop (mkF m 0 #[.val (.ref a1)] [])) _
    refine XS.aloadN X0.here hx rfl (hb hby d7_0) rfl rfl ?_
    show Steps p.tables e below (s₁.setTop (mkF m 1 #[.val (.ref a1)] [(.ref a1)])) _
    exact k
  obtain ⟨T101, X101, e101, st101⟩ := getF X0 hx hZ hown (host := "") (Or.inl (hw _ (List.mem_of_getElem? (i := 18) rfl))) Via.refl e0 F1 (g := (mkF m 1 #[.val (.ref a1)] [(.ref a1)])) rfl rfl (hb hby d7_1)
  refine EndsQ.go st101 ?_
  show EndsQ _ _ _ _ _ _ _ (T101.setTop (mkF m 4 #[.val (.ref a1)] [(.long b2)]))
  refine EndsQ.retJ X101 hx Bd.notSynchronized Bd.returns (hb hby d7_4) (by decide) (by decide) ?_
  show Q7 Z a1 b2 h0 n0 (some (.long b2)) T101.heap _
  rw [e101]
  exact ⟨rfl, N0, rfl⟩
theorem ef_0 (m : MethodId) (x0 : Int64) (x1 : Int64) (x2 : Int64) (x3 : Int64) (x4 : Int64) (x5 : Int64) : entryFrame m #[(.long x0), (.long x1), (.long x2), (.long x3), (.long x4), (.long x5)] maxLocals = mkF m 0 #[.val (.long x0), .second, .val (.long x1), .second, .val (.long x2), .second, .val (.long x3), .second, .val (.long x4), .second, .val (.long x5), .second, .unset, .unset, .unset, .unset, .unset, .unset] [] := by first | (simp [entryFrame, mkF, argsToLocals, Value.category, maxLocals]; done) | rfl
def Q0 (Z : State) (q1 : Int64) (q2 : Int64) (q3 : Int64) (q4 : Int64) (q5 : Int64) (q6 : Int64) (h0 : Heap) (n0 : Nat) (v : Option Value) (h : Heap) (L : List Loc) : Prop := v = some (.int 1) ∧ Fr n0 L
set_option maxRecDepth 65536 in
set_option maxHeartbeats 40000000 in
theorem rm0 (l : Launch) (Z : State) (a0 : Array Value) (hw : ∀ d ∈ tables_1, d.before a0 Z = true) (ws : List Jvm.Cond) (q1 : Int64) (q2 : Int64) (q3 : Int64) (q4 : Int64) (q5 : Int64) (q6 : Int64) (h0 : Heap) (n0 : Nat) (Z0 : n0 ≤ h0.size) :
    MetFree l x (head1 (Jvm.Cond.code x code maxLocals ret :: ws) room_1) (fun a U => a = #[(.long q1), (.long q2), (.long q3), (.long q4), (.long q5), (.long q6)] ∧ Z.Warmed39 U.vm ∧ U.heap = h0) (fun _ _ _ _ _ => True) (fun _ U o U' => ∃ v L, o = .returned v ∧ Q0 Z q1 q2 q3 q4 q5 q6 h0 n0 v U'.heap L ∧ FrameEnd U o U' L 16 128) := by
  refine MetFree.of_bodySF (plainFor_of_name pn_0) hisR ?_
  intro p e s m args below meth c s₁ Bd hml0 hP hK
  obtain ⟨rfl, hZ, hh⟩ := hP
  have hx := Bd.exec
  have hby := Bd.bytes
  have hml : c.maxLocals = 18 := hml0
  have hown : s.vm.findClass "com/example/mini_queue/miniqueue/CostCountersSincePinLaw" = some m.cls := findClass_of_methodNamed Bd.named
  have hnm := (name_of_methodNamed Bd.named Bd.method).1
  have X0 : Stand p l e room_1 s m #[(.long q1), (.long q2), (.long q3), (.long q4), (.long q5), (.long q6)] below meth c s₁ [] 0 0 := Stand.of_body Bd
  have e0 : s₁.heap = h0 := by rw [← hh, Bd.state]; rfl
  have N0 := Fr.nil n0
  show EndsQ p.tables e below s (fun v h L => Q0 Z q1 q2 q3 q4 q5 q6 h0 n0 v h L) 16 128 _
  refine EndsQ.go (b := s₁.setTop (mkF m 0 #[.val (.long q1), .second, .val (.long q2), .second, .val (.long q3), .second, .val (.long q4), .second, .val (.long q5), .second, .val (.long q6), .second, .unset, .unset, .unset, .unset, .unset, .unset] [])) (fun t k => castTop (ef_0 m q1 q2 q3 q4 q5 q6) k) ?_
  obtain ⟨T101, h101, X101, e101, E101, A101, D101, -, st101⟩ := newO X0 hx hZ hown (hw _ (List.mem_of_getElem? (i := 0) rfl)) (hw _ (List.mem_of_getElem? (i := 1) rfl)) (hw _ (List.mem_of_getElem? (i := 2) rfl)) e0 (g := (mkF m 0 #[.val (.long q1), .second, .val (.long q2), .second, .val (.long q3), .second, .val (.long q4), .second, .val (.long q5), .second, .val (.long q6), .second, .unset, .unset, .unset, .unset, .unset, .unset] [])) rfl (hb hby at_0) (by decide) (by decide)
  obtain ⟨b101, g101⟩ : ∃ z, z = h0.size := ⟨_, rfl⟩
  rw [← g101] at A101 D101 st101
  have gn101 : n0 ≤ b101 := Nat.le_trans Z0 (Nat.le_of_eq g101.symm)
  have f102 : n0 ≤ h101.size := Nat.le_trans Z0 E101.1
  have f103 : Fld Z h101 b101 "com/example/mini_queue/miniqueue/CostCounters" "walBytes" "J" (.long (0 : Int64)) := D101 (Or.inr (hw _ (List.mem_of_getElem? (i := 15) rfl))) (ty := .long) (by decide)
  have f104 : Fld Z h101 b101 "com/example/mini_queue/miniqueue/CostCounters" "jobsBuffers" "J" (.long (0 : Int64)) := D101 (Or.inr (hw _ (List.mem_of_getElem? (i := 17) rfl))) (ty := .long) (by decide)
  have f105 : Fld Z h101 b101 "com/example/mini_queue/miniqueue/CostCounters" "jobsRowVersions" "J" (.long (0 : Int64)) := D101 (Or.inr (hw _ (List.mem_of_getElem? (i := 19) rfl))) (ty := .long) (by decide)
  refine EndsQ.go st101 ?_
  show EndsQ _ _ _ _ _ _ _ (T101.setTop (mkF m 3 #[.val (.long q1), .second, .val (.long q2), .second, .val (.long q3), .second, .val (.long q4), .second, .val (.long q5), .second, .val (.long q6), .second, .unset, .unset, .unset, .unset, .unset, .unset] [(.ref b101)]))
  refine EndsQ.go (b := T101.setTop (mkF m 8 #[.val (.long q1), .second, .val (.long q2), .second, .val (.long q3), .second, .val (.long q4), .second, .val (.long q5), .second, .val (.long q6), .second, .unset, .unset, .unset, .unset, .unset, .unset] [(.long q3), (.long q2), (.long q1), (.ref b101), (.ref b101)])) (fun t k => ?_) ?_
  · show Steps p.tables e below (T101.setTop (mkF m 3 #[.val (.long q1), .second, .val (.long q2), .second, .val (.long q3), .second, .val (.long q4), .second, .val (.long q5), .second, .val (.long q6), .second, .unset, .unset, .unset, .unset, .unset, .unset] [(.ref b101)])) _
    refine XS.dup X101.here hx rfl (hb hby at_3) rfl rfl ?_
    show Steps p.tables e below (T101.setTop (mkF m 4 #[.val (.long q1), .second, .val (.long q2), .second, .val (.long q3), .second, .val (.long q4), .second, .val (.long q5), .second, .val (.long q6), .second, .unset, .unset, .unset, .unset, .unset, .unset] [(.ref b101), (.ref b101)])) _
    refine XS.lloadN X101.here hx rfl (hb hby at_4) rfl ?_
    show Steps p.tables e below (T101.setTop (mkF m 5 #[.val (.long q1), .second, .val (.long q2), .second, .val (.long q3), .second, .val (.long q4), .second, .val (.long q5), .second, .val (.long q6), .second, .unset, .unset, .unset, .unset, .unset, .unset] [(.long q1), (.ref b101), (.ref b101)])) _
    refine XS.lloadN X101.here hx rfl (hb hby at_5) rfl ?_
    show Steps p.tables e below (T101.setTop (mkF m 6 #[.val (.long q1), .second, .val (.long q2), .second, .val (.long q3), .second, .val (.long q4), .second, .val (.long q5), .second, .val (.long q6), .second, .unset, .unset, .unset, .unset, .unset, .unset] [(.long q2), (.long q1), (.ref b101), (.ref b101)])) _
    refine XS.lload X101.here hx rfl (hb hby at_6) rfl ?_
    show Steps p.tables e below (T101.setTop (mkF m 8 #[.val (.long q1), .second, .val (.long q2), .second, .val (.long q3), .second, .val (.long q4), .second, .val (.long q5), .second, .val (.long q6), .second, .unset, .unset, .unset, .unset, .unset, .unset] [(.long q3), (.long q2), (.long q1), (.ref b101), (.ref b101)])) _
    exact k
  obtain ⟨_, _, ⟨T106, L106, kk106, nn106⟩, -, X106, ⟨Lc106, hQ106, l106, y106, z106⟩, st106⟩ := X101.specialBack hx (y := (⟨"com/example/mini_queue/miniqueue/CostCounters", "<init>", "(JJJ)V"⟩ : MethodName)) rfl hown (mvT hZ (hw _ (List.mem_of_getElem? (i := 3) rfl))) (mvT hZ (hw _ (List.mem_of_getElem? (i := 4) rfl))) (mvT hZ (hw _ (List.mem_of_getElem? (i := 5) rfl))) (by decide) (backOf (W := 1) (rm1 l Z a0 hw [] b101 q1 q2 q3 h101 n0 f102 f103 f104 f105 A101 gn101 ) hZ (hw _ (List.mem_of_getElem? (i := 5) rfl)) (hw _ (List.mem_of_getElem? (i := 2) rfl)) (by decide) (by decide)) (g := (mkF m 8 #[.val (.long q1), .second, .val (.long q2), .second, .val (.long q3), .second, .val (.long q4), .second, .val (.long q5), .second, .val (.long q6), .second, .unset, .unset, .unset, .unset, .unset, .unset] [(.long q3), (.long q2), (.long q1), (.ref b101), (.ref b101)])) rfl (by rw [hml]; rfl) (Steps.refl _) (a := b101) (argsL := [(.long q1), (.long q2), (.long q3)]) (rest := [(.ref b101)]) (lenOf pd_1 rfl) rfl (by show 2 * 0 + _ ≤ _; exact Nat.le_of_eq rfl) (hb hby at_8) (fun _ _ => ⟨rfl, e101, (by decide : 1 + 0 ≤ _), (by decide : 3 + 0 ≤ _)⟩)
  dsimp only [Pt.U, Pt.locs, Pt.cells, Pt.slots] at X106 l106 y106 z106 st106 hQ106
  subst l106 y106 z106
  obtain ⟨rfl, Nq106, K106, Ex106, F106_walBytes, F106_jobsBuffers, F106_jobsRowVersions⟩ := hQ106
  have N106 := Fr.app N0 Nq106
  have f107 : n0 ≤ T106.heap.size := Nat.le_trans f102 K106.1
  refine EndsQ.go (fun t k => st106.trans k) ?_
  show EndsQ _ _ _ _ _ _ _ (T106.setTop (mkF m 11 #[.val (.long q1), .second, .val (.long q2), .second, .val (.long q3), .second, .val (.long q4), .second, .val (.long q5), .second, .val (.long q6), .second, .unset, .unset, .unset, .unset, .unset, .unset] [(.ref b101)]))
  refine EndsQ.go (b := T106.setTop (mkF m 13 #[.val (.long q1), .second, .val (.long q2), .second, .val (.long q3), .second, .val (.long q4), .second, .val (.long q5), .second, .val (.long q6), .second, .val (.ref b101), .unset, .unset, .unset, .unset, .unset] [])) (fun t k => ?_) ?_
  · show Steps p.tables e below (T106.setTop (mkF m 11 #[.val (.long q1), .second, .val (.long q2), .second, .val (.long q3), .second, .val (.long q4), .second, .val (.long q5), .second, .val (.long q6), .second, .unset, .unset, .unset, .unset, .unset, .unset] [(.ref b101)])) _
    refine XS.astore X106.here hx rfl (hb hby at_11) rfl rfl (l' := #[.val (.long q1), .second, .val (.long q2), .second, .val (.long q3), .second, .val (.long q4), .second, .val (.long q5), .second, .val (.long q6), .second, .val (.ref b101), .unset, .unset, .unset, .unset, .unset]) rfl ?_
    show Steps p.tables e below (T106.setTop (mkF m 13 #[.val (.long q1), .second, .val (.long q2), .second, .val (.long q3), .second, .val (.long q4), .second, .val (.long q5), .second, .val (.long q6), .second, .val (.ref b101), .unset, .unset, .unset, .unset, .unset] [])) _
    exact k
  obtain ⟨T108, h108, X108, e108, E108, A108, D108, -, st108⟩ := newO X106 hx hZ hown (hw _ (List.mem_of_getElem? (i := 0) rfl)) (hw _ (List.mem_of_getElem? (i := 1) rfl)) (hw _ (List.mem_of_getElem? (i := 2) rfl)) rfl (g := (mkF m 13 #[.val (.long q1), .second, .val (.long q2), .second, .val (.long q3), .second, .val (.long q4), .second, .val (.long q5), .second, .val (.long q6), .second, .val (.ref b101), .unset, .unset, .unset, .unset, .unset] [])) rfl (hb hby at_13) (by decide) (by decide)
  obtain ⟨b108, g108⟩ : ∃ z, z = T106.heap.size := ⟨_, rfl⟩
  rw [← g108] at A108 D108 st108
  have gn108 : n0 ≤ b108 := Nat.le_trans f107 (Nat.le_of_eq g108.symm)
  have ne108_b101 : b101 ≠ b108 := Nat.ne_of_lt (Nat.lt_of_lt_of_le Ex106.lt (Nat.le_of_eq g108.symm))
  have f109 : n0 ≤ h108.size := Nat.le_trans f107 E108.1
  have f110 : Exa Z h108 b101 "com/example/mini_queue/miniqueue/CostCounters" := Ex106.ext E108
  have f111 : Fld Z h108 b101 "com/example/mini_queue/miniqueue/CostCounters" "walBytes" "J" (.long q1) := F106_walBytes.ext E108
  have f112 : Fld Z h108 b101 "com/example/mini_queue/miniqueue/CostCounters" "jobsBuffers" "J" (.long q2) := F106_jobsBuffers.ext E108
  have f113 : Fld Z h108 b101 "com/example/mini_queue/miniqueue/CostCounters" "jobsRowVersions" "J" (.long q3) := F106_jobsRowVersions.ext E108
  have f114 : Fld Z h108 b108 "com/example/mini_queue/miniqueue/CostCounters" "walBytes" "J" (.long (0 : Int64)) := D108 (Or.inr (hw _ (List.mem_of_getElem? (i := 15) rfl))) (ty := .long) (by decide)
  have f115 : Fld Z h108 b108 "com/example/mini_queue/miniqueue/CostCounters" "jobsBuffers" "J" (.long (0 : Int64)) := D108 (Or.inr (hw _ (List.mem_of_getElem? (i := 17) rfl))) (ty := .long) (by decide)
  have f116 : Fld Z h108 b108 "com/example/mini_queue/miniqueue/CostCounters" "jobsRowVersions" "J" (.long (0 : Int64)) := D108 (Or.inr (hw _ (List.mem_of_getElem? (i := 19) rfl))) (ty := .long) (by decide)
  refine EndsQ.go st108 ?_
  show EndsQ _ _ _ _ _ _ _ (T108.setTop (mkF m 16 #[.val (.long q1), .second, .val (.long q2), .second, .val (.long q3), .second, .val (.long q4), .second, .val (.long q5), .second, .val (.long q6), .second, .val (.ref b101), .unset, .unset, .unset, .unset, .unset] [(.ref b108)]))
  refine EndsQ.go (b := T108.setTop (mkF m 23 #[.val (.long q1), .second, .val (.long q2), .second, .val (.long q3), .second, .val (.long q4), .second, .val (.long q5), .second, .val (.long q6), .second, .val (.ref b101), .unset, .unset, .unset, .unset, .unset] [(.long q6), (.long q5), (.long q4), (.ref b108), (.ref b108)])) (fun t k => ?_) ?_
  · show Steps p.tables e below (T108.setTop (mkF m 16 #[.val (.long q1), .second, .val (.long q2), .second, .val (.long q3), .second, .val (.long q4), .second, .val (.long q5), .second, .val (.long q6), .second, .val (.ref b101), .unset, .unset, .unset, .unset, .unset] [(.ref b108)])) _
    refine XS.dup X108.here hx rfl (hb hby at_16) rfl rfl ?_
    show Steps p.tables e below (T108.setTop (mkF m 17 #[.val (.long q1), .second, .val (.long q2), .second, .val (.long q3), .second, .val (.long q4), .second, .val (.long q5), .second, .val (.long q6), .second, .val (.ref b101), .unset, .unset, .unset, .unset, .unset] [(.ref b108), (.ref b108)])) _
    refine XS.lload X108.here hx rfl (hb hby at_17) rfl ?_
    show Steps p.tables e below (T108.setTop (mkF m 19 #[.val (.long q1), .second, .val (.long q2), .second, .val (.long q3), .second, .val (.long q4), .second, .val (.long q5), .second, .val (.long q6), .second, .val (.ref b101), .unset, .unset, .unset, .unset, .unset] [(.long q4), (.ref b108), (.ref b108)])) _
    refine XS.lload X108.here hx rfl (hb hby at_19) rfl ?_
    show Steps p.tables e below (T108.setTop (mkF m 21 #[.val (.long q1), .second, .val (.long q2), .second, .val (.long q3), .second, .val (.long q4), .second, .val (.long q5), .second, .val (.long q6), .second, .val (.ref b101), .unset, .unset, .unset, .unset, .unset] [(.long q5), (.long q4), (.ref b108), (.ref b108)])) _
    refine XS.lload X108.here hx rfl (hb hby at_21) rfl ?_
    show Steps p.tables e below (T108.setTop (mkF m 23 #[.val (.long q1), .second, .val (.long q2), .second, .val (.long q3), .second, .val (.long q4), .second, .val (.long q5), .second, .val (.long q6), .second, .val (.ref b101), .unset, .unset, .unset, .unset, .unset] [(.long q6), (.long q5), (.long q4), (.ref b108), (.ref b108)])) _
    exact k
  obtain ⟨_, _, ⟨T117, L117, kk117, nn117⟩, -, X117, ⟨Lc117, hQ117, l117, y117, z117⟩, st117⟩ := X108.specialBack hx (y := (⟨"com/example/mini_queue/miniqueue/CostCounters", "<init>", "(JJJ)V"⟩ : MethodName)) rfl hown (mvT hZ (hw _ (List.mem_of_getElem? (i := 3) rfl))) (mvT hZ (hw _ (List.mem_of_getElem? (i := 4) rfl))) (mvT hZ (hw _ (List.mem_of_getElem? (i := 5) rfl))) (by decide) (backOf (W := 1) (rm1 l Z a0 hw [] b108 q4 q5 q6 h108 n0 f109 f114 f115 f116 A108 gn108 ) hZ (hw _ (List.mem_of_getElem? (i := 5) rfl)) (hw _ (List.mem_of_getElem? (i := 2) rfl)) (by decide) (by decide)) (g := (mkF m 23 #[.val (.long q1), .second, .val (.long q2), .second, .val (.long q3), .second, .val (.long q4), .second, .val (.long q5), .second, .val (.long q6), .second, .val (.ref b101), .unset, .unset, .unset, .unset, .unset] [(.long q6), (.long q5), (.long q4), (.ref b108), (.ref b108)])) rfl (by rw [hml]; rfl) (Steps.refl _) (a := b108) (argsL := [(.long q4), (.long q5), (.long q6)]) (rest := [(.ref b108)]) (lenOf pd_1 rfl) rfl (by show 2 * 0 + _ ≤ _; exact Nat.le_of_eq rfl) (hb hby at_23) (fun _ _ => ⟨rfl, e108, (by decide : 2 + 0 ≤ _), (by decide : 6 + 0 ≤ _)⟩)
  dsimp only [Pt.U, Pt.locs, Pt.cells, Pt.slots] at X117 l117 y117 z117 st117 hQ117
  subst l117 y117 z117
  obtain ⟨rfl, Nq117, K117, Ex117, F117_walBytes, F117_jobsBuffers, F117_jobsRowVersions⟩ := hQ117
  have N117 := Fr.app N106 Nq117
  have f118 : n0 ≤ T117.heap.size := Nat.le_trans f109 K117.1
  have f119 : Exa Z T117.heap b101 "com/example/mini_queue/miniqueue/CostCounters" := f110.keep K117
  have f120 : Fld Z T117.heap b101 "com/example/mini_queue/miniqueue/CostCounters" "walBytes" "J" (.long q1) := f111.keep K117 (ninS ne108_b101 nin0)
  have f121 : Fld Z T117.heap b101 "com/example/mini_queue/miniqueue/CostCounters" "jobsBuffers" "J" (.long q2) := f112.keep K117 (ninS ne108_b101 nin0)
  have f122 : Fld Z T117.heap b101 "com/example/mini_queue/miniqueue/CostCounters" "jobsRowVersions" "J" (.long q3) := f113.keep K117 (ninS ne108_b101 nin0)
  refine EndsQ.go (fun t k => st117.trans k) ?_
  show EndsQ _ _ _ _ _ _ _ (T117.setTop (mkF m 26 #[.val (.long q1), .second, .val (.long q2), .second, .val (.long q3), .second, .val (.long q4), .second, .val (.long q5), .second, .val (.long q6), .second, .val (.ref b101), .unset, .unset, .unset, .unset, .unset] [(.ref b108)]))
  refine EndsQ.go (b := T117.setTop (mkF m 32 #[.val (.long q1), .second, .val (.long q2), .second, .val (.long q3), .second, .val (.long q4), .second, .val (.long q5), .second, .val (.long q6), .second, .val (.ref b101), .val (.ref b108), .unset, .unset, .unset, .unset] [(.ref b108), (.ref b101)])) (fun t k => ?_) ?_
  · show Steps p.tables e below (T117.setTop (mkF m 26 #[.val (.long q1), .second, .val (.long q2), .second, .val (.long q3), .second, .val (.long q4), .second, .val (.long q5), .second, .val (.long q6), .second, .val (.ref b101), .unset, .unset, .unset, .unset, .unset] [(.ref b108)])) _
    refine XS.astore X117.here hx rfl (hb hby at_26) rfl rfl (l' := #[.val (.long q1), .second, .val (.long q2), .second, .val (.long q3), .second, .val (.long q4), .second, .val (.long q5), .second, .val (.long q6), .second, .val (.ref b101), .val (.ref b108), .unset, .unset, .unset, .unset]) rfl ?_
    show Steps p.tables e below (T117.setTop (mkF m 28 #[.val (.long q1), .second, .val (.long q2), .second, .val (.long q3), .second, .val (.long q4), .second, .val (.long q5), .second, .val (.long q6), .second, .val (.ref b101), .val (.ref b108), .unset, .unset, .unset, .unset] [])) _
    refine XS.aload X117.here hx rfl (hb hby at_28) rfl rfl ?_
    show Steps p.tables e below (T117.setTop (mkF m 30 #[.val (.long q1), .second, .val (.long q2), .second, .val (.long q3), .second, .val (.long q4), .second, .val (.long q5), .second, .val (.long q6), .second, .val (.ref b101), .val (.ref b108), .unset, .unset, .unset, .unset] [(.ref b101)])) _
    refine XS.aload X117.here hx rfl (hb hby at_30) rfl rfl ?_
    show Steps p.tables e below (T117.setTop (mkF m 32 #[.val (.long q1), .second, .val (.long q2), .second, .val (.long q3), .second, .val (.long q4), .second, .val (.long q5), .second, .val (.long q6), .second, .val (.ref b101), .val (.ref b108), .unset, .unset, .unset, .unset] [(.ref b108), (.ref b101)])) _
    exact k
  obtain ⟨cq123, kq123, qa123, qb123, qc123⟩ := isOf hZ rfl f119
  obtain ⟨_, _, ⟨T123, L123, kk123, nn123⟩, -, X123, ⟨Lc123, hQ123, l123, y123, z123⟩, st123⟩ := X117.virtualBack hx (y := (⟨"com/example/mini_queue/miniqueue/CostCounters", "since", "(Lcom/example/mini_queue/miniqueue/CostCounters;)Lcom/example/mini_queue/miniqueue/CostCounters;"⟩ : MethodName)) (z := (⟨"com/example/mini_queue/miniqueue/CostCounters", "since", "(Lcom/example/mini_queue/miniqueue/CostCounters;)Lcom/example/mini_queue/miniqueue/CostCounters;"⟩ : MethodName)) hown (mvT hZ (hw _ (List.mem_of_getElem? (i := 20) rfl))) (mvT hZ (hw _ (List.mem_of_getElem? (i := 21) rfl))) (notFace_of_selects (args := #[]) (mvT hZ (hw _ (List.mem_of_getElem? (i := 23) rfl)))) (mvT hZ (hw _ (List.mem_of_getElem? (i := 23) rfl))) (mvT hZ (hw _ (List.mem_of_getElem? (i := 22) rfl))) (by decide) (backOf (W := 0) (rm4 l Z a0 hw [] b101 b108 q1 q2 q3 q4 q5 q6 T117.heap n0 f118 f119 Ex117 f120 f121 f122 F117_walBytes F117_jobsBuffers F117_jobsRowVersions) hZ (hw _ (List.mem_of_getElem? (i := 24) rfl)) (hw _ (List.mem_of_getElem? (i := 2) rfl)) (by decide) (by decide)) qa123 qc123 (g := (mkF m 32 #[.val (.long q1), .second, .val (.long q2), .second, .val (.long q3), .second, .val (.long q4), .second, .val (.long q5), .second, .val (.long q6), .second, .val (.ref b101), .val (.ref b108), .unset, .unset, .unset, .unset] [(.ref b108), (.ref b101)])) rfl (by rw [hml]; rfl) (Steps.refl _) (argsL := [(.ref b108)]) (rest := []) (lenOf pd_2 rfl) rfl (by show 2 * 0 + _ ≤ _; exact Nat.le_of_eq rfl) (hb hby at_32) (fun _ _ => ⟨rfl, rfl, (by decide : 2 + 1 ≤ _), (by decide : 6 + 3 ≤ _)⟩)
  dsimp only [Pt.U, Pt.locs, Pt.cells, Pt.slots] at X123 l123 y123 z123 st123 hQ123
  subst l123 y123 z123
  obtain ⟨d123, rfl, Nq123, K123, gd123, ge123, Ex123, F123_walBytes, F123_jobsBuffers, F123_jobsRowVersions⟩ := hQ123
  have N123 := Fr.app N117 Nq123
  have f124 : n0 ≤ T123.heap.size := Nat.le_trans f118 K123.1
  have f125 : Exa Z T123.heap b101 "com/example/mini_queue/miniqueue/CostCounters" := f119.keep K123
  have f126 : Fld Z T123.heap b101 "com/example/mini_queue/miniqueue/CostCounters" "walBytes" "J" (.long q1) := f120.keep K123 nin0
  have f127 : Fld Z T123.heap b101 "com/example/mini_queue/miniqueue/CostCounters" "jobsBuffers" "J" (.long q2) := f121.keep K123 nin0
  have f128 : Fld Z T123.heap b101 "com/example/mini_queue/miniqueue/CostCounters" "jobsRowVersions" "J" (.long q3) := f122.keep K123 nin0
  have f129 : Exa Z T123.heap b108 "com/example/mini_queue/miniqueue/CostCounters" := Ex117.keep K123
  have f130 : Fld Z T123.heap b108 "com/example/mini_queue/miniqueue/CostCounters" "walBytes" "J" (.long q4) := F117_walBytes.keep K123 nin0
  have f131 : Fld Z T123.heap b108 "com/example/mini_queue/miniqueue/CostCounters" "jobsBuffers" "J" (.long q5) := F117_jobsBuffers.keep K123 nin0
  have f132 : Fld Z T123.heap b108 "com/example/mini_queue/miniqueue/CostCounters" "jobsRowVersions" "J" (.long q6) := F117_jobsRowVersions.keep K123 nin0
  refine EndsQ.go (fun t k => st123.trans k) ?_
  show EndsQ _ _ _ _ _ _ _ (T123.setTop (mkF m 35 #[.val (.long q1), .second, .val (.long q2), .second, .val (.long q3), .second, .val (.long q4), .second, .val (.long q5), .second, .val (.long q6), .second, .val (.ref b101), .val (.ref b108), .unset, .unset, .unset, .unset] [(.ref d123)]))
  refine EndsQ.go (b := T123.setTop (mkF m 39 #[.val (.long q1), .second, .val (.long q2), .second, .val (.long q3), .second, .val (.long q4), .second, .val (.long q5), .second, .val (.long q6), .second, .val (.ref b101), .val (.ref b108), .val (.ref d123), .unset, .unset, .unset] [(.ref d123)])) (fun t k => ?_) ?_
  · show Steps p.tables e below (T123.setTop (mkF m 35 #[.val (.long q1), .second, .val (.long q2), .second, .val (.long q3), .second, .val (.long q4), .second, .val (.long q5), .second, .val (.long q6), .second, .val (.ref b101), .val (.ref b108), .unset, .unset, .unset, .unset] [(.ref d123)])) _
    refine XS.astore X123.here hx rfl (hb hby at_35) rfl rfl (l' := #[.val (.long q1), .second, .val (.long q2), .second, .val (.long q3), .second, .val (.long q4), .second, .val (.long q5), .second, .val (.long q6), .second, .val (.ref b101), .val (.ref b108), .val (.ref d123), .unset, .unset, .unset]) rfl ?_
    show Steps p.tables e below (T123.setTop (mkF m 37 #[.val (.long q1), .second, .val (.long q2), .second, .val (.long q3), .second, .val (.long q4), .second, .val (.long q5), .second, .val (.long q6), .second, .val (.ref b101), .val (.ref b108), .val (.ref d123), .unset, .unset, .unset] [])) _
    refine XS.aload X123.here hx rfl (hb hby at_37) rfl rfl ?_
    show Steps p.tables e below (T123.setTop (mkF m 39 #[.val (.long q1), .second, .val (.long q2), .second, .val (.long q3), .second, .val (.long q4), .second, .val (.long q5), .second, .val (.long q6), .second, .val (.ref b101), .val (.ref b108), .val (.ref d123), .unset, .unset, .unset] [(.ref d123)])) _
    exact k
  obtain ⟨cq133, kq133, qa133, qb133, qc133⟩ := isOf hZ rfl Ex123
  obtain ⟨_, _, ⟨T133, L133, kk133, nn133⟩, -, X133, ⟨Lc133, hQ133, l133, y133, z133⟩, st133⟩ := X123.virtualBack hx (y := (⟨"com/example/mini_queue/miniqueue/CostCounters", "walBytes", "()J"⟩ : MethodName)) (z := (⟨"com/example/mini_queue/miniqueue/CostCounters", "walBytes", "()J"⟩ : MethodName)) hown (mvT hZ (hw _ (List.mem_of_getElem? (i := 27) rfl))) (mvT hZ (hw _ (List.mem_of_getElem? (i := 28) rfl))) (notFace_of_selects (args := #[]) (mvT hZ (hw _ (List.mem_of_getElem? (i := 30) rfl)))) (mvT hZ (hw _ (List.mem_of_getElem? (i := 30) rfl))) (mvT hZ (hw _ (List.mem_of_getElem? (i := 29) rfl))) (by decide) (backOf (W := 0) (rm5 l Z a0 hw [] d123 (q1 - q4) T123.heap n0 f124 F123_walBytes) hZ (hw _ (List.mem_of_getElem? (i := 31) rfl)) (hw _ (List.mem_of_getElem? (i := 2) rfl)) (by decide) (by decide)) qa133 qc133 (g := (mkF m 39 #[.val (.long q1), .second, .val (.long q2), .second, .val (.long q3), .second, .val (.long q4), .second, .val (.long q5), .second, .val (.long q6), .second, .val (.ref b101), .val (.ref b108), .val (.ref d123), .unset, .unset, .unset] [(.ref d123)])) rfl (by rw [hml]; rfl) (Steps.refl _) (argsL := []) (rest := []) (lenOf pd_3 rfl) rfl (by show 2 * 0 + _ ≤ _; exact Nat.le_of_eq rfl) (hb hby at_39) (fun _ _ => ⟨rfl, rfl, (by decide : 3 + 0 ≤ _), (by decide : 9 + 0 ≤ _)⟩)
  dsimp only [Pt.U, Pt.locs, Pt.cells, Pt.slots] at X133 l133 y133 z133 st133 hQ133
  subst l133 y133 z133
  obtain ⟨rfl, Nq133, eq133⟩ := hQ133
  have N133 := Fr.app N123 Nq133
  refine EndsQ.go (fun t k => st133.trans k) ?_
  show EndsQ _ _ _ _ _ _ _ (T133.setTop (mkF m 42 #[.val (.long q1), .second, .val (.long q2), .second, .val (.long q3), .second, .val (.long q4), .second, .val (.long q5), .second, .val (.long q6), .second, .val (.ref b101), .val (.ref b108), .val (.ref d123), .unset, .unset, .unset] [(.long (q1 - q4))]))
  refine EndsQ.go (b := T133.setTop (mkF m 59 #[.val (.long q1), .second, .val (.long q2), .second, .val (.long q3), .second, .val (.long q4), .second, .val (.long q5), .second, .val (.long q6), .second, .val (.ref b101), .val (.ref b108), .val (.ref d123), .val (.int (1 : Int32)), .unset, .unset] [(.ref d123)])) (fun t k => ?_) ?_
  · show Steps p.tables e below (T133.setTop (mkF m 42 #[.val (.long q1), .second, .val (.long q2), .second, .val (.long q3), .second, .val (.long q4), .second, .val (.long q5), .second, .val (.long q6), .second, .val (.ref b101), .val (.ref b108), .val (.ref d123), .unset, .unset, .unset] [(.long (q1 - q4))])) _
    refine XS.lload X133.here hx rfl (hb hby at_42) rfl ?_
    show Steps p.tables e below (T133.setTop (mkF m 44 #[.val (.long q1), .second, .val (.long q2), .second, .val (.long q3), .second, .val (.long q4), .second, .val (.long q5), .second, .val (.long q6), .second, .val (.ref b101), .val (.ref b108), .val (.ref d123), .unset, .unset, .unset] [(.long q4), (.long (q1 - q4))])) _
    refine XS.ladd X133.here hx rfl (hb hby at_44) rfl ?_
    show Steps p.tables e below (T133.setTop (mkF m 45 #[.val (.long q1), .second, .val (.long q2), .second, .val (.long q3), .second, .val (.long q4), .second, .val (.long q5), .second, .val (.long q6), .second, .val (.ref b101), .val (.ref b108), .val (.ref d123), .unset, .unset, .unset] [(.long ((q1 - q4) + q4))])) _
    refine XS.lloadN X133.here hx rfl (hb hby at_45) rfl ?_
    show Steps p.tables e below (T133.setTop (mkF m 46 #[.val (.long q1), .second, .val (.long q2), .second, .val (.long q3), .second, .val (.long q4), .second, .val (.long q5), .second, .val (.long q6), .second, .val (.ref b101), .val (.ref b108), .val (.ref d123), .unset, .unset, .unset] [(.long q1), (.long ((q1 - q4) + q4))])) _
    refine XS.lcmp X133.here hx rfl (hb hby at_46) rfl ?_
    show Steps p.tables e below (T133.setTop (mkF m 47 #[.val (.long q1), .second, .val (.long q2), .second, .val (.long q3), .second, .val (.long q4), .second, .val (.long q5), .second, .val (.long q6), .second, .val (.ref b101), .val (.ref b108), .val (.ref d123), .unset, .unset, .unset] [(.int (lcmpW ((q1 - q4) + q4) q1))])) _
    refine XS.ifNo X133.here hx rfl (hb hby at_47) rfl ((if0 _ _).trans (teq ((lw_eq ((q1 - q4) + q4) q1).mpr (own_back q1 q4))).2) ?_
    show Steps p.tables e below (T133.setTop (mkF m 50 #[.val (.long q1), .second, .val (.long q2), .second, .val (.long q3), .second, .val (.long q4), .second, .val (.long q5), .second, .val (.long q6), .second, .val (.ref b101), .val (.ref b108), .val (.ref d123), .unset, .unset, .unset] [])) _
    refine XS.iconst X133.here hx rfl (hb hby at_50) ?_
    show Steps p.tables e below (T133.setTop (mkF m 51 #[.val (.long q1), .second, .val (.long q2), .second, .val (.long q3), .second, .val (.long q4), .second, .val (.long q5), .second, .val (.long q6), .second, .val (.ref b101), .val (.ref b108), .val (.ref d123), .unset, .unset, .unset] [(.int (1 : Int32))])) _
    refine XS.goto X133.here hx rfl (pc0 := 51) (pc' := 55) rfl (hb hby at_51) (by decide) (by decide) ?_
    show Steps p.tables e below (T133.setTop (mkF m 55 #[.val (.long q1), .second, .val (.long q2), .second, .val (.long q3), .second, .val (.long q4), .second, .val (.long q5), .second, .val (.long q6), .second, .val (.ref b101), .val (.ref b108), .val (.ref d123), .unset, .unset, .unset] [(.int (1 : Int32))])) _
    refine XS.istore X133.here hx rfl (hb hby at_55) rfl (l' := #[.val (.long q1), .second, .val (.long q2), .second, .val (.long q3), .second, .val (.long q4), .second, .val (.long q5), .second, .val (.long q6), .second, .val (.ref b101), .val (.ref b108), .val (.ref d123), .val (.int (1 : Int32)), .unset, .unset]) rfl ?_
    show Steps p.tables e below (T133.setTop (mkF m 57 #[.val (.long q1), .second, .val (.long q2), .second, .val (.long q3), .second, .val (.long q4), .second, .val (.long q5), .second, .val (.long q6), .second, .val (.ref b101), .val (.ref b108), .val (.ref d123), .val (.int (1 : Int32)), .unset, .unset] [])) _
    refine XS.aload X133.here hx rfl (hb hby at_57) rfl rfl ?_
    show Steps p.tables e below (T133.setTop (mkF m 59 #[.val (.long q1), .second, .val (.long q2), .second, .val (.long q3), .second, .val (.long q4), .second, .val (.long q5), .second, .val (.long q6), .second, .val (.ref b101), .val (.ref b108), .val (.ref d123), .val (.int (1 : Int32)), .unset, .unset] [(.ref d123)])) _
    exact k
  obtain ⟨cq134, kq134, qa134, qb134, qc134⟩ := isOf hZ eq133 Ex123
  obtain ⟨_, _, ⟨T134, L134, kk134, nn134⟩, -, X134, ⟨Lc134, hQ134, l134, y134, z134⟩, st134⟩ := X133.virtualBack hx (y := (⟨"com/example/mini_queue/miniqueue/CostCounters", "jobsBuffers", "()J"⟩ : MethodName)) (z := (⟨"com/example/mini_queue/miniqueue/CostCounters", "jobsBuffers", "()J"⟩ : MethodName)) hown (mvT hZ (hw _ (List.mem_of_getElem? (i := 32) rfl))) (mvT hZ (hw _ (List.mem_of_getElem? (i := 33) rfl))) (notFace_of_selects (args := #[]) (mvT hZ (hw _ (List.mem_of_getElem? (i := 35) rfl)))) (mvT hZ (hw _ (List.mem_of_getElem? (i := 35) rfl))) (mvT hZ (hw _ (List.mem_of_getElem? (i := 34) rfl))) (by decide) (backOf (W := 0) (rm6 l Z a0 hw [] d123 (q2 - q5) T123.heap n0 f124 F123_jobsBuffers) hZ (hw _ (List.mem_of_getElem? (i := 36) rfl)) (hw _ (List.mem_of_getElem? (i := 2) rfl)) (by decide) (by decide)) qa134 qc134 (g := (mkF m 59 #[.val (.long q1), .second, .val (.long q2), .second, .val (.long q3), .second, .val (.long q4), .second, .val (.long q5), .second, .val (.long q6), .second, .val (.ref b101), .val (.ref b108), .val (.ref d123), .val (.int (1 : Int32)), .unset, .unset] [(.ref d123)])) rfl (by rw [hml]; rfl) (Steps.refl _) (argsL := []) (rest := []) (lenOf pd_3 rfl) rfl (by show 2 * 0 + _ ≤ _; exact Nat.le_of_eq rfl) (hb hby at_59) (fun _ _ => ⟨rfl, eq133, (by decide : 3 + 0 ≤ _), (by decide : 9 + 0 ≤ _)⟩)
  dsimp only [Pt.U, Pt.locs, Pt.cells, Pt.slots] at X134 l134 y134 z134 st134 hQ134
  subst l134 y134 z134
  obtain ⟨rfl, Nq134, eq134⟩ := hQ134
  have N134 := Fr.app N133 Nq134
  refine EndsQ.go (fun t k => st134.trans k) ?_
  show EndsQ _ _ _ _ _ _ _ (T134.setTop (mkF m 62 #[.val (.long q1), .second, .val (.long q2), .second, .val (.long q3), .second, .val (.long q4), .second, .val (.long q5), .second, .val (.long q6), .second, .val (.ref b101), .val (.ref b108), .val (.ref d123), .val (.int (1 : Int32)), .unset, .unset] [(.long (q2 - q5))]))
  refine EndsQ.go (b := T134.setTop (mkF m 79 #[.val (.long q1), .second, .val (.long q2), .second, .val (.long q3), .second, .val (.long q4), .second, .val (.long q5), .second, .val (.long q6), .second, .val (.ref b101), .val (.ref b108), .val (.ref d123), .val (.int (1 : Int32)), .val (.int (1 : Int32)), .unset] [(.ref d123)])) (fun t k => ?_) ?_
  · show Steps p.tables e below (T134.setTop (mkF m 62 #[.val (.long q1), .second, .val (.long q2), .second, .val (.long q3), .second, .val (.long q4), .second, .val (.long q5), .second, .val (.long q6), .second, .val (.ref b101), .val (.ref b108), .val (.ref d123), .val (.int (1 : Int32)), .unset, .unset] [(.long (q2 - q5))])) _
    refine XS.lload X134.here hx rfl (hb hby at_62) rfl ?_
    show Steps p.tables e below (T134.setTop (mkF m 64 #[.val (.long q1), .second, .val (.long q2), .second, .val (.long q3), .second, .val (.long q4), .second, .val (.long q5), .second, .val (.long q6), .second, .val (.ref b101), .val (.ref b108), .val (.ref d123), .val (.int (1 : Int32)), .unset, .unset] [(.long q5), (.long (q2 - q5))])) _
    refine XS.ladd X134.here hx rfl (hb hby at_64) rfl ?_
    show Steps p.tables e below (T134.setTop (mkF m 65 #[.val (.long q1), .second, .val (.long q2), .second, .val (.long q3), .second, .val (.long q4), .second, .val (.long q5), .second, .val (.long q6), .second, .val (.ref b101), .val (.ref b108), .val (.ref d123), .val (.int (1 : Int32)), .unset, .unset] [(.long ((q2 - q5) + q5))])) _
    refine XS.lloadN X134.here hx rfl (hb hby at_65) rfl ?_
    show Steps p.tables e below (T134.setTop (mkF m 66 #[.val (.long q1), .second, .val (.long q2), .second, .val (.long q3), .second, .val (.long q4), .second, .val (.long q5), .second, .val (.long q6), .second, .val (.ref b101), .val (.ref b108), .val (.ref d123), .val (.int (1 : Int32)), .unset, .unset] [(.long q2), (.long ((q2 - q5) + q5))])) _
    refine XS.lcmp X134.here hx rfl (hb hby at_66) rfl ?_
    show Steps p.tables e below (T134.setTop (mkF m 67 #[.val (.long q1), .second, .val (.long q2), .second, .val (.long q3), .second, .val (.long q4), .second, .val (.long q5), .second, .val (.long q6), .second, .val (.ref b101), .val (.ref b108), .val (.ref d123), .val (.int (1 : Int32)), .unset, .unset] [(.int (lcmpW ((q2 - q5) + q5) q2))])) _
    refine XS.ifNo X134.here hx rfl (hb hby at_67) rfl ((if0 _ _).trans (teq ((lw_eq ((q2 - q5) + q5) q2).mpr (own_back q2 q5))).2) ?_
    show Steps p.tables e below (T134.setTop (mkF m 70 #[.val (.long q1), .second, .val (.long q2), .second, .val (.long q3), .second, .val (.long q4), .second, .val (.long q5), .second, .val (.long q6), .second, .val (.ref b101), .val (.ref b108), .val (.ref d123), .val (.int (1 : Int32)), .unset, .unset] [])) _
    refine XS.iconst X134.here hx rfl (hb hby at_70) ?_
    show Steps p.tables e below (T134.setTop (mkF m 71 #[.val (.long q1), .second, .val (.long q2), .second, .val (.long q3), .second, .val (.long q4), .second, .val (.long q5), .second, .val (.long q6), .second, .val (.ref b101), .val (.ref b108), .val (.ref d123), .val (.int (1 : Int32)), .unset, .unset] [(.int (1 : Int32))])) _
    refine XS.goto X134.here hx rfl (pc0 := 71) (pc' := 75) rfl (hb hby at_71) (by decide) (by decide) ?_
    show Steps p.tables e below (T134.setTop (mkF m 75 #[.val (.long q1), .second, .val (.long q2), .second, .val (.long q3), .second, .val (.long q4), .second, .val (.long q5), .second, .val (.long q6), .second, .val (.ref b101), .val (.ref b108), .val (.ref d123), .val (.int (1 : Int32)), .unset, .unset] [(.int (1 : Int32))])) _
    refine XS.istore X134.here hx rfl (hb hby at_75) rfl (l' := #[.val (.long q1), .second, .val (.long q2), .second, .val (.long q3), .second, .val (.long q4), .second, .val (.long q5), .second, .val (.long q6), .second, .val (.ref b101), .val (.ref b108), .val (.ref d123), .val (.int (1 : Int32)), .val (.int (1 : Int32)), .unset]) rfl ?_
    show Steps p.tables e below (T134.setTop (mkF m 77 #[.val (.long q1), .second, .val (.long q2), .second, .val (.long q3), .second, .val (.long q4), .second, .val (.long q5), .second, .val (.long q6), .second, .val (.ref b101), .val (.ref b108), .val (.ref d123), .val (.int (1 : Int32)), .val (.int (1 : Int32)), .unset] [])) _
    refine XS.aload X134.here hx rfl (hb hby at_77) rfl rfl ?_
    show Steps p.tables e below (T134.setTop (mkF m 79 #[.val (.long q1), .second, .val (.long q2), .second, .val (.long q3), .second, .val (.long q4), .second, .val (.long q5), .second, .val (.long q6), .second, .val (.ref b101), .val (.ref b108), .val (.ref d123), .val (.int (1 : Int32)), .val (.int (1 : Int32)), .unset] [(.ref d123)])) _
    exact k
  obtain ⟨cq135, kq135, qa135, qb135, qc135⟩ := isOf hZ eq134 Ex123
  obtain ⟨_, _, ⟨T135, L135, kk135, nn135⟩, -, X135, ⟨Lc135, hQ135, l135, y135, z135⟩, st135⟩ := X134.virtualBack hx (y := (⟨"com/example/mini_queue/miniqueue/CostCounters", "jobsRowVersions", "()J"⟩ : MethodName)) (z := (⟨"com/example/mini_queue/miniqueue/CostCounters", "jobsRowVersions", "()J"⟩ : MethodName)) hown (mvT hZ (hw _ (List.mem_of_getElem? (i := 37) rfl))) (mvT hZ (hw _ (List.mem_of_getElem? (i := 38) rfl))) (notFace_of_selects (args := #[]) (mvT hZ (hw _ (List.mem_of_getElem? (i := 40) rfl)))) (mvT hZ (hw _ (List.mem_of_getElem? (i := 40) rfl))) (mvT hZ (hw _ (List.mem_of_getElem? (i := 39) rfl))) (by decide) (backOf (W := 0) (rm7 l Z a0 hw [] d123 (q3 - q6) T123.heap n0 f124 F123_jobsRowVersions) hZ (hw _ (List.mem_of_getElem? (i := 41) rfl)) (hw _ (List.mem_of_getElem? (i := 2) rfl)) (by decide) (by decide)) qa135 qc135 (g := (mkF m 79 #[.val (.long q1), .second, .val (.long q2), .second, .val (.long q3), .second, .val (.long q4), .second, .val (.long q5), .second, .val (.long q6), .second, .val (.ref b101), .val (.ref b108), .val (.ref d123), .val (.int (1 : Int32)), .val (.int (1 : Int32)), .unset] [(.ref d123)])) rfl (by rw [hml]; rfl) (Steps.refl _) (argsL := []) (rest := []) (lenOf pd_3 rfl) rfl (by show 2 * 0 + _ ≤ _; exact Nat.le_of_eq rfl) (hb hby at_79) (fun _ _ => ⟨rfl, eq134, (by decide : 3 + 0 ≤ _), (by decide : 9 + 0 ≤ _)⟩)
  dsimp only [Pt.U, Pt.locs, Pt.cells, Pt.slots] at X135 l135 y135 z135 st135 hQ135
  subst l135 y135 z135
  obtain ⟨rfl, Nq135, eq135⟩ := hQ135
  have N135 := Fr.app N134 Nq135
  refine EndsQ.go (fun t k => st135.trans k) ?_
  show EndsQ _ _ _ _ _ _ _ (T135.setTop (mkF m 82 #[.val (.long q1), .second, .val (.long q2), .second, .val (.long q3), .second, .val (.long q4), .second, .val (.long q5), .second, .val (.long q6), .second, .val (.ref b101), .val (.ref b108), .val (.ref d123), .val (.int (1 : Int32)), .val (.int (1 : Int32)), .unset] [(.long (q3 - q6))]))
  refine EndsQ.go (b := T135.setTop (mkF m 118 #[.val (.long q1), .second, .val (.long q2), .second, .val (.long q3), .second, .val (.long q4), .second, .val (.long q5), .second, .val (.long q6), .second, .val (.ref b101), .val (.ref b108), .val (.ref d123), .val (.int (1 : Int32)), .val (.int (1 : Int32)), .val (.int (1 : Int32))] [(.int (1 : Int32))])) (fun t k => ?_) ?_
  · show Steps p.tables e below (T135.setTop (mkF m 82 #[.val (.long q1), .second, .val (.long q2), .second, .val (.long q3), .second, .val (.long q4), .second, .val (.long q5), .second, .val (.long q6), .second, .val (.ref b101), .val (.ref b108), .val (.ref d123), .val (.int (1 : Int32)), .val (.int (1 : Int32)), .unset] [(.long (q3 - q6))])) _
    refine XS.lload X135.here hx rfl (hb hby at_82) rfl ?_
    show Steps p.tables e below (T135.setTop (mkF m 84 #[.val (.long q1), .second, .val (.long q2), .second, .val (.long q3), .second, .val (.long q4), .second, .val (.long q5), .second, .val (.long q6), .second, .val (.ref b101), .val (.ref b108), .val (.ref d123), .val (.int (1 : Int32)), .val (.int (1 : Int32)), .unset] [(.long q6), (.long (q3 - q6))])) _
    refine XS.ladd X135.here hx rfl (hb hby at_84) rfl ?_
    show Steps p.tables e below (T135.setTop (mkF m 85 #[.val (.long q1), .second, .val (.long q2), .second, .val (.long q3), .second, .val (.long q4), .second, .val (.long q5), .second, .val (.long q6), .second, .val (.ref b101), .val (.ref b108), .val (.ref d123), .val (.int (1 : Int32)), .val (.int (1 : Int32)), .unset] [(.long ((q3 - q6) + q6))])) _
    refine XS.lload X135.here hx rfl (hb hby at_85) rfl ?_
    show Steps p.tables e below (T135.setTop (mkF m 87 #[.val (.long q1), .second, .val (.long q2), .second, .val (.long q3), .second, .val (.long q4), .second, .val (.long q5), .second, .val (.long q6), .second, .val (.ref b101), .val (.ref b108), .val (.ref d123), .val (.int (1 : Int32)), .val (.int (1 : Int32)), .unset] [(.long q3), (.long ((q3 - q6) + q6))])) _
    refine XS.lcmp X135.here hx rfl (hb hby at_87) rfl ?_
    show Steps p.tables e below (T135.setTop (mkF m 88 #[.val (.long q1), .second, .val (.long q2), .second, .val (.long q3), .second, .val (.long q4), .second, .val (.long q5), .second, .val (.long q6), .second, .val (.ref b101), .val (.ref b108), .val (.ref d123), .val (.int (1 : Int32)), .val (.int (1 : Int32)), .unset] [(.int (lcmpW ((q3 - q6) + q6) q3))])) _
    refine XS.ifNo X135.here hx rfl (hb hby at_88) rfl ((if0 _ _).trans (teq ((lw_eq ((q3 - q6) + q6) q3).mpr (own_back q3 q6))).2) ?_
    show Steps p.tables e below (T135.setTop (mkF m 91 #[.val (.long q1), .second, .val (.long q2), .second, .val (.long q3), .second, .val (.long q4), .second, .val (.long q5), .second, .val (.long q6), .second, .val (.ref b101), .val (.ref b108), .val (.ref d123), .val (.int (1 : Int32)), .val (.int (1 : Int32)), .unset] [])) _
    refine XS.iconst X135.here hx rfl (hb hby at_91) ?_
    show Steps p.tables e below (T135.setTop (mkF m 92 #[.val (.long q1), .second, .val (.long q2), .second, .val (.long q3), .second, .val (.long q4), .second, .val (.long q5), .second, .val (.long q6), .second, .val (.ref b101), .val (.ref b108), .val (.ref d123), .val (.int (1 : Int32)), .val (.int (1 : Int32)), .unset] [(.int (1 : Int32))])) _
    refine XS.goto X135.here hx rfl (pc0 := 92) (pc' := 96) rfl (hb hby at_92) (by decide) (by decide) ?_
    show Steps p.tables e below (T135.setTop (mkF m 96 #[.val (.long q1), .second, .val (.long q2), .second, .val (.long q3), .second, .val (.long q4), .second, .val (.long q5), .second, .val (.long q6), .second, .val (.ref b101), .val (.ref b108), .val (.ref d123), .val (.int (1 : Int32)), .val (.int (1 : Int32)), .unset] [(.int (1 : Int32))])) _
    refine XS.istore X135.here hx rfl (hb hby at_96) rfl (l' := #[.val (.long q1), .second, .val (.long q2), .second, .val (.long q3), .second, .val (.long q4), .second, .val (.long q5), .second, .val (.long q6), .second, .val (.ref b101), .val (.ref b108), .val (.ref d123), .val (.int (1 : Int32)), .val (.int (1 : Int32)), .val (.int (1 : Int32))]) rfl ?_
    show Steps p.tables e below (T135.setTop (mkF m 98 #[.val (.long q1), .second, .val (.long q2), .second, .val (.long q3), .second, .val (.long q4), .second, .val (.long q5), .second, .val (.long q6), .second, .val (.ref b101), .val (.ref b108), .val (.ref d123), .val (.int (1 : Int32)), .val (.int (1 : Int32)), .val (.int (1 : Int32))] [])) _
    refine XS.iload X135.here hx rfl (hb hby at_98) rfl ?_
    show Steps p.tables e below (T135.setTop (mkF m 100 #[.val (.long q1), .second, .val (.long q2), .second, .val (.long q3), .second, .val (.long q4), .second, .val (.long q5), .second, .val (.long q6), .second, .val (.ref b101), .val (.ref b108), .val (.ref d123), .val (.int (1 : Int32)), .val (.int (1 : Int32)), .val (.int (1 : Int32))] [(.int (1 : Int32))])) _
    refine XS.ifNo X135.here hx rfl (hb hby at_100) rfl ((if0 _ _).trans (feq (by decide)).1) ?_
    show Steps p.tables e below (T135.setTop (mkF m 103 #[.val (.long q1), .second, .val (.long q2), .second, .val (.long q3), .second, .val (.long q4), .second, .val (.long q5), .second, .val (.long q6), .second, .val (.ref b101), .val (.ref b108), .val (.ref d123), .val (.int (1 : Int32)), .val (.int (1 : Int32)), .val (.int (1 : Int32))] [])) _
    refine XS.iload X135.here hx rfl (hb hby at_103) rfl ?_
    show Steps p.tables e below (T135.setTop (mkF m 105 #[.val (.long q1), .second, .val (.long q2), .second, .val (.long q3), .second, .val (.long q4), .second, .val (.long q5), .second, .val (.long q6), .second, .val (.ref b101), .val (.ref b108), .val (.ref d123), .val (.int (1 : Int32)), .val (.int (1 : Int32)), .val (.int (1 : Int32))] [(.int (1 : Int32))])) _
    refine XS.ifNo X135.here hx rfl (hb hby at_105) rfl ((if0 _ _).trans (feq (by decide)).1) ?_
    show Steps p.tables e below (T135.setTop (mkF m 108 #[.val (.long q1), .second, .val (.long q2), .second, .val (.long q3), .second, .val (.long q4), .second, .val (.long q5), .second, .val (.long q6), .second, .val (.ref b101), .val (.ref b108), .val (.ref d123), .val (.int (1 : Int32)), .val (.int (1 : Int32)), .val (.int (1 : Int32))] [])) _
    refine XS.iload X135.here hx rfl (hb hby at_108) rfl ?_
    show Steps p.tables e below (T135.setTop (mkF m 110 #[.val (.long q1), .second, .val (.long q2), .second, .val (.long q3), .second, .val (.long q4), .second, .val (.long q5), .second, .val (.long q6), .second, .val (.ref b101), .val (.ref b108), .val (.ref d123), .val (.int (1 : Int32)), .val (.int (1 : Int32)), .val (.int (1 : Int32))] [(.int (1 : Int32))])) _
    refine XS.ifNo X135.here hx rfl (hb hby at_110) rfl ((if0 _ _).trans (feq (by decide)).1) ?_
    show Steps p.tables e below (T135.setTop (mkF m 113 #[.val (.long q1), .second, .val (.long q2), .second, .val (.long q3), .second, .val (.long q4), .second, .val (.long q5), .second, .val (.long q6), .second, .val (.ref b101), .val (.ref b108), .val (.ref d123), .val (.int (1 : Int32)), .val (.int (1 : Int32)), .val (.int (1 : Int32))] [])) _
    refine XS.iconst X135.here hx rfl (hb hby at_113) ?_
    show Steps p.tables e below (T135.setTop (mkF m 114 #[.val (.long q1), .second, .val (.long q2), .second, .val (.long q3), .second, .val (.long q4), .second, .val (.long q5), .second, .val (.long q6), .second, .val (.ref b101), .val (.ref b108), .val (.ref d123), .val (.int (1 : Int32)), .val (.int (1 : Int32)), .val (.int (1 : Int32))] [(.int (1 : Int32))])) _
    refine XS.goto X135.here hx rfl (pc0 := 114) (pc' := 118) rfl (hb hby at_114) (by decide) (by decide) ?_
    show Steps p.tables e below (T135.setTop (mkF m 118 #[.val (.long q1), .second, .val (.long q2), .second, .val (.long q3), .second, .val (.long q4), .second, .val (.long q5), .second, .val (.long q6), .second, .val (.ref b101), .val (.ref b108), .val (.ref d123), .val (.int (1 : Int32)), .val (.int (1 : Int32)), .val (.int (1 : Int32))] [(.int (1 : Int32))])) _
    exact k
  refine EndsQ.retN X135 hx Bd.notSynchronized (t := .boolean) Bd.returns (by simp) (hb hby at_118) (by decide) (by decide) ?_
  show Q0 Z q1 q2 q3 q4 q5 q6 h0 n0 (some (.int (nar .boolean (1 : Int32)))) T135.heap _
  rw [eq135]
  exact ⟨rfl, N135⟩
set_option maxRecDepth 65536 in
set_option maxHeartbeats 40000000 in
theorem comes_1 {Post : Tables → Env → Array Value → State → Outcome → State → Prop} (hpost : ∀ tb e args s v u, (limb_1_1.after args s (.returned v) u = true ∧ limb_1_2.after args s (.returned v) u = true ∧ True) → FrameEnd s (.returned v) u (Jvm.fieldLocs frame_1_writes args s ++ Jvm.arrayLocs frame_1_arrays args s ++ Jvm.staticLocs frame_1_statics s) 16 128 → Post tb e args s (.returned v) u) :
    ArmFor flags0 classFile x code maxLocals ret World_1 tables_1 room_1 Calls_1 rest_1 Pre_1 Post := by
  intro l hfl _ _ p e ha hc hk s m args below hf hA hF happ hP
  obtain ⟨hcalls, hrest, hpre⟩ := hP
  obtain ⟨-, -, -, hnamed, -, -, -, hat⟩ := (Spec.applies_iff hf).mp happ
  obtain ⟨hg, hn⟩ := and_e (Cond.before_iff.mp (show (Jvm.Cond.and given_1 narrow_1).before args s = true from hpre))
  obtain ⟨g1a, g1b⟩ := and_e hg
  obtain ⟨g2a, g2b⟩ := and_e g1b
  obtain ⟨g3a, g3b⟩ := and_e g2b
  obtain ⟨g4a, g4b⟩ := and_e g3b
  obtain ⟨g5a, g5b⟩ := and_e g4b
  obtain ⟨g6a, g6b⟩ := and_e g5b
  obtain ⟨w0, w1, w2, w3, w4, w5, rfl⟩ : ∃ w0 w1 w2 w3 w4 w5 : Value, args = #[w0, w1, w2, w3, w4, w5] := by
    have hs : args.size = 6 := by simpa [Cond.value, given_1] using g1a
    obtain ⟨L⟩ := args
    match L, hs with
    | [w0, w1, w2, w3, w4, w5], _ => exact ⟨w0, w1, w2, w3, w4, w5, rfl⟩
  have hw := fun d (hd : d ∈ tables_1) => atoms_spec (ws := Jvm.Cond.code x code maxLocals ret :: tables_1) hat d (List.mem_cons_of_mem _ hd)
  have hfit : Fit s := fun {y c} hc i hi => by
    obtain ⟨ha, rfl⟩ := Array.getElem?_eq_some_iff.mp hc
    have q := List.all_eq_true.mp ((Array.all_eq_true_iff_forall_mem.mp hF) _ (Array.getElem_mem ha)) i (List.mem_range.mpr hi)
    simpa [Array.getElem?_eq_getElem hi] using q
  obtain ⟨i0, ei0⟩ := isL_v g2a
  obtain rfl : w0 = (.long i0) := Option.some.inj ei0
  obtain ⟨i1, ei1⟩ := isL_v g3a
  obtain rfl : w1 = (.long i1) := Option.some.inj ei1
  obtain ⟨i2, ei2⟩ := isL_v g4a
  obtain rfl : w2 = (.long i2) := Option.some.inj ei2
  obtain ⟨i3, ei3⟩ := isL_v g5a
  obtain rfl : w3 = (.long i3) := Option.some.inj ei3
  obtain ⟨i4, ei4⟩ := isL_v g6a
  obtain rfl : w4 = (.long i4) := Option.some.inj ei4
  obtain ⟨i5, ei5⟩ := isL_v g6b
  obtain rfl : w5 = (.long i5) := Option.some.inj ei5
  obtain ⟨n, o, h1, h2, h3, _, L, rfl, ⟨rfl, N⟩, hq⟩ := rm0 l s _ hw tables_1 i0 i1 i2 i3 i4 i5 s.heap s.heap.size (Nat.le_refl _) p e ha hc hk s m _ below hf ((Spec.applies_iff_loose hf).mp happ).1 ⟨rfl, State.Warmed39.refl s, rfl⟩ trivial
  refine ⟨n, _, h1, h2, h3, hpost _ _ _ _ _ _ ⟨Cond.after_iff.mpr rfl, Cond.after_iff.mpr (eq_i res_at (Term.int_eval (1)) rfl), trivial⟩ ⟨hq.1, hq.2.1, (hq.2.2.sift fun y hy => Or.inr (N y hy)).mono (by decide) (by decide)⟩⟩
theorem main_1_1 : Claimed_1_1 := comes_1 fun _ _ _ _ _ _ h hF => ⟨h.1, hF⟩
theorem main_1_2 : Claimed_1_2 := comes_1 fun _ _ _ _ _ _ h hF => ⟨h.2.1, hF⟩
end Jvm.Pilot.@@N@@
namespace Jvm.Pilot.@@N@@
open Jvm Jvm.ClassFile Sem Op Lib Jvm.Free Jvm.Stand Jvm.Pilot.@@N@@.Jvm.D
/-! MADE BY PROGRAM (witnessworld.py) out of the Statement's table words and the real class files: 10 classes; the members and pool entries that the words name. The judged class is class 1, her method 1. -/
namespace start1
open Jvm.ClassFile
def u (s : String) : CpInfo := .utf8 (stringToUtf16 s)
/-- a pool by its gaps: so many unusable entries, then the entry; so many at the end -/
def gap : Nat → List CpInfo → List CpInfo
  | 0, r => r
  | n + 1, r => .unusable :: gap n r
def poolList (es : List (Nat × CpInfo)) (last : Nat) : List CpInfo := es.foldr (fun e r => gap e.1 (e.2 :: r)) (gap last [])
def pool (es : List (Nat × CpInfo)) (last : Nat) : Array CpInfo := ⟨poolList es last⟩
def fileOf (pool : Array CpInfo) (this : Nat) (attrs : Array Attribute := #[]) (ms : Array MethodInfo := #[]) (fl : Nat := 33) (sup : Nat := 0) (ifs : Array Nat := #[]) (fds : Array FieldInfo := #[]) : ClassFile where
  minorVersion := 0
  majorVersion := 65
  constantPool := pool
  accessFlags := fl
  thisClass := this
  superClass := sup
  interfaces := ifs
  fields := fds
  methods := ms
  attributes := attrs
def plain (name : String) (sup : Option ClassId) : Class where
  name := name
  kind := .ordinary
  loader := none
  accessFlags := 33
  super := sup
  interfaces := #[]
  cf := none
  fields := #[]
  methods := #[]
  instanceTypes := #[]
  staticTypes := #[]
  resolved := #[]
  callSites := []
  init := .initialized
  statics := none
  mirror := none

def pool0 : Array CpInfo := pool [(5, u "<init>"), (0, u "()V"), (1, .class_ 10), (1, u "java/lang/Object")] 113

def k0c0 : Code := { maxStack := 0, maxLocals := 1, code := object_method_1_code, exceptionTable := #[], attributes := #[] }
def k0m0 : Method := { name := "<init>", desc := "()V", sig := { parameters := [], returnType := none }, accessFlags := 1, code := some k0c0 }
/-- java/lang/Object -/
def k0 : Class := { plain "java/lang/Object" none with
  accessFlags := 33
  interfaces := #[]
  cf := some (fileOf pool0 8 #[] #[{ accessFlags := 1, nameIndex := 5, descriptorIndex := 6, attributes := #[] }] 33 0 #[] #[])
  fields := #[]
  methods := #[k0m0]
  instanceTypes := #[]
  staticTypes := #[]
  resolved := Array.replicate 124 none
  statics := none }

def pool1 : Array CpInfo := pool [(2, .class_ 4), (1, u "java/lang/Object"), (0, u "<init>"), (0, u "()V"), (0, .class_ 8), (0, u "com/example/mini_queue/miniqueue/CostCounters"), (0, .methodref 7 10), (0, .nameAndType 5 11), (0, u "(JJJ)V"), (0, .methodref 7 13), (0, .nameAndType 14 15), (0, u "since"), (0, u "(Lcom/example/mini_queue/miniqueue/CostCounters;)Lcom/example/mini_queue/miniqueue/CostCounters;"), (0, .methodref 7 17), (0, .nameAndType 18 19), (0, u "walBytes"), (0, u "()J"), (0, .methodref 7 21), (0, .nameAndType 22 19), (0, u "jobsBuffers"), (0, .methodref 7 24), (0, .nameAndType 25 19), (0, u "jobsRowVersions"), (0, .class_ 27), (0, u "com/example/mini_queue/miniqueue/CostCountersSincePinLaw"), (2, u "law"), (0, u "(JJJJJJ)Z")] 3

def k1m0 : Method := { name := "<init>", desc := "()V", sig := { parameters := [], returnType := none }, accessFlags := 1, code := none }
def k1c1 : Code := { maxStack := 8, maxLocals := 18, code := code, exceptionTable := #[], attributes := #[] }
def k1m1 : Method := { name := "law", desc := "(JJJJJJ)Z", sig := { parameters := [.long, .long, .long, .long, .long, .long], returnType := some .boolean }, accessFlags := 9, code := some k1c1 }
/-- com/example/mini_queue/miniqueue/CostCountersSincePinLaw -/
def k1 : Class := { plain "com/example/mini_queue/miniqueue/CostCountersSincePinLaw" (some 0) with
  accessFlags := 49
  interfaces := #[]
  cf := some (fileOf pool1 26 #[] #[{ accessFlags := 1, nameIndex := 5, descriptorIndex := 6, attributes := #[] }, { accessFlags := 9, nameIndex := 30, descriptorIndex := 31, attributes := #[] }] 49 2 #[] #[])
  fields := #[]
  methods := #[k1m0, k1m1]
  instanceTypes := #[]
  staticTypes := #[]
  resolved := Array.replicate 35 none
  statics := none }

def pool2 : Array CpInfo := pool [(1, .methodref 2 3), (0, .class_ 4), (0, .nameAndType 5 6), (0, u "java/lang/Object"), (0, u "<init>"), (0, u "()V"), (0, .class_ 8), (0, u "java/lang/Record")] 13

def k2c0 : Code := { maxStack := 1, maxLocals := 1, code := jdk_30_method_1_code, exceptionTable := #[], attributes := #[] }
def k2m0 : Method := { name := "<init>", desc := "()V", sig := { parameters := [], returnType := none }, accessFlags := 4, code := some k2c0 }
/-- java/lang/Record -/
def k2 : Class := { plain "java/lang/Record" (some 0) with
  accessFlags := 1057
  interfaces := #[]
  cf := some (fileOf pool2 7 #[] #[{ accessFlags := 4, nameIndex := 5, descriptorIndex := 6, attributes := #[] }] 1057 2 #[] #[])
  fields := #[]
  methods := #[k2m0]
  instanceTypes := #[]
  staticTypes := #[]
  resolved := Array.replicate 22 none
  statics := none }

def pool3 : Array CpInfo := pool [(1, .methodref 2 3), (0, .class_ 4), (0, .nameAndType 5 6), (0, u "java/lang/Record"), (0, u "<init>"), (0, u "()V"), (0, .fieldref 8 9), (0, .class_ 10), (0, .nameAndType 11 12), (0, u "com/example/mini_queue/miniqueue/CostCounters"), (0, u "walBytes"), (0, u "J"), (0, .fieldref 8 14), (0, .nameAndType 15 12), (0, u "jobsBuffers"), (0, .fieldref 8 17), (0, .nameAndType 18 12), (0, u "jobsRowVersions"), (0, .methodref 8 20), (0, .nameAndType 5 21), (0, u "(JJJ)V"), (15, u "since"), (0, u "(Lcom/example/mini_queue/miniqueue/CostCounters;)Lcom/example/mini_queue/miniqueue/CostCounters;"), (3, u "()J")] 22

def k3c0 : Code := { maxStack := 3, maxLocals := 7, code := prog_2_method_1_code, exceptionTable := #[], attributes := #[] }
def k3m0 : Method := { name := "<init>", desc := "(JJJ)V", sig := { parameters := [.long, .long, .long], returnType := none }, accessFlags := 1, code := some k3c0 }
def k3c1 : Code := { maxStack := 10, maxLocals := 2, code := prog_2_method_2_code, exceptionTable := #[], attributes := #[] }
def k3m1 : Method := { name := "since", desc := "(Lcom/example/mini_queue/miniqueue/CostCounters;)Lcom/example/mini_queue/miniqueue/CostCounters;", sig := { parameters := [(.object "com/example/mini_queue/miniqueue/CostCounters")], returnType := some (.object "com/example/mini_queue/miniqueue/CostCounters") }, accessFlags := 1, code := some k3c1 }
def k3c2 : Code := { maxStack := 2, maxLocals := 1, code := prog_2_method_6_code, exceptionTable := #[], attributes := #[] }
def k3m2 : Method := { name := "walBytes", desc := "()J", sig := { parameters := [], returnType := some .long }, accessFlags := 1, code := some k3c2 }
def k3c3 : Code := { maxStack := 2, maxLocals := 1, code := prog_2_method_7_code, exceptionTable := #[], attributes := #[] }
def k3m3 : Method := { name := "jobsBuffers", desc := "()J", sig := { parameters := [], returnType := some .long }, accessFlags := 1, code := some k3c3 }
def k3c4 : Code := { maxStack := 2, maxLocals := 1, code := prog_2_method_8_code, exceptionTable := #[], attributes := #[] }
def k3m4 : Method := { name := "jobsRowVersions", desc := "()J", sig := { parameters := [], returnType := some .long }, accessFlags := 1, code := some k3c4 }
/-- com/example/mini_queue/miniqueue/CostCounters -/
def k3 : Class := { plain "com/example/mini_queue/miniqueue/CostCounters" (some 2) with
  accessFlags := 49
  interfaces := #[]
  cf := some (fileOf pool3 8 #[] #[{ accessFlags := 1, nameIndex := 5, descriptorIndex := 21, attributes := #[] }, { accessFlags := 1, nameIndex := 37, descriptorIndex := 38, attributes := #[] }, { accessFlags := 1, nameIndex := 11, descriptorIndex := 42, attributes := #[] }, { accessFlags := 1, nameIndex := 15, descriptorIndex := 42, attributes := #[] }, { accessFlags := 1, nameIndex := 18, descriptorIndex := 42, attributes := #[] }] 49 2 #[] #[{ accessFlags := 18, nameIndex := 11, descriptorIndex := 12, attributes := #[] }, { accessFlags := 18, nameIndex := 15, descriptorIndex := 12, attributes := #[] }, { accessFlags := 18, nameIndex := 18, descriptorIndex := 12, attributes := #[] }])
  fields := #[{ name := "walBytes", type := .long, accessFlags := 18, slot := 0, constantValue := 0 }, { name := "jobsBuffers", type := .long, accessFlags := 18, slot := 1, constantValue := 0 }, { name := "jobsRowVersions", type := .long, accessFlags := 18, slot := 2, constantValue := 0 }]
  methods := #[k3m0, k3m1, k3m2, k3m3, k3m4]
  instanceTypes := #[.long, .long, .long]
  staticTypes := #[]
  resolved := Array.replicate 65 none
  statics := none }

def pool4 : Array CpInfo := pool [(1, u "java/lang/Cloneable"), (0, .class_ 1), (0, u "java/lang/Object"), (0, .class_ 3)] 3

/-- java/lang/Cloneable -/
def k4 : Class := { plain "java/lang/Cloneable" (some 0) with
  accessFlags := 1537
  interfaces := #[]
  cf := some (fileOf pool4 2 #[] #[] 1537 4 #[] #[])
  fields := #[]
  methods := #[]
  instanceTypes := #[]
  staticTypes := #[]
  resolved := Array.replicate 8 none
  statics := none }

def pool5 : Array CpInfo := pool [(1, u "java/io/Serializable"), (0, .class_ 1), (0, u "java/lang/Object"), (0, .class_ 3)] 3

/-- java/io/Serializable -/
def k5 : Class := { plain "java/io/Serializable" (some 0) with
  accessFlags := 1537
  interfaces := #[]
  cf := some (fileOf pool5 2 #[] #[] 1537 4 #[] #[])
  fields := #[]
  methods := #[]
  instanceTypes := #[]
  staticTypes := #[]
  resolved := Array.replicate 8 none
  statics := none }

/-- the primitive byte -/
def k6 : Class := { plain "byte" none with kind := .primitive 'B', accessFlags := 0x411 }
/-- [B -/
def k7 : Class := { plain "[B" (some 0) with kind := .array 6 .byte, interfaces := #[4, 5], accessFlags := 1041 }

/-- the primitive int -/
def k8 : Class := { plain "int" none with kind := .primitive 'I', accessFlags := 0x411 }
/-- [I -/
def k9 : Class := { plain "[I" (some 0) with kind := .array 8 .int, interfaces := #[4, 5], accessFlags := 1041 }

def heap : Heap := #[]
def classes : Array Class := #[k0, k1, k2, k3, k4, k5, k6, k7, k8, k9]
def interned : List (Array UInt16 × Addr) := []
def slotsUsed : Nat := 0
def theMethod : MethodId := ⟨1, 1⟩
def args0 : Array Value := #[.long 5, .long 6, .long 7, .long 8, .long 9, .long 10]
def aboutOver (below : List Frame) : State where
  vm := { classes := classes, interned := interned.toArray }
  heap := heap
  slotsUsed := slotsUsed
  threads := #[{ frames := .invoking theMethod args0 :: below }]
def below0 : List Frame := [.native { method := ⟨0, 0⟩, args := #[] }]
def about1 : State := aboutOver below0
def p0 : Program := .bare "" "" ""
def e0 : Env := launch0.env 0 0 0
theorem w_frames : about1.frames = Frame.invoking theMethod args0 :: below0 := rfl
set_option maxRecDepth 65536 in
theorem w_args : argsFit about1.vm theMethod args0 = true := by decide +kernel
set_option maxRecDepth 65536 in
theorem w_heap : heapFits about1 = true := by decide +kernel
set_option maxRecDepth 65536 in
theorem w_runnable : about1.curStatus? = some .runnable := by decide +kernel
set_option maxRecDepth 65536 in
theorem w_alone : about1.alone = true := by decide +kernel
set_option maxRecDepth 65536 in
theorem w_named : about1.methodNamed? x = some theMethod := by decide +kernel
set_option maxRecDepth 65536 in
theorem w_hears : about1.hears theMethod below0 = true := by decide +kernel
set_option maxRecDepth 65536 in
theorem w_ripe : about1.ripe theMethod args0 below0 = true := by decide +kernel
theorem w_running : about1.status = .running := rfl
set_option maxRecDepth 65536 in
theorem w_room : about1.hasRoom e0.platform room_1 = true :=
  launch0.hasRoom_least _ room_1 (by decide +kernel) (by decide +kernel) (by decide +kernel) (by decide +kernel) (by decide +kernel) (by decide +kernel)
theorem allAtoms_all (ts : List Jvm.Cond) (a : Array Jvm.Value) (st : Jvm.State) : (allAtoms ts).before a st = ts.all (fun c => c.before a st) := by
  induction ts with
  | nil => rfl
  | cons c t ih =>
    show (Jvm.Cond.and c (allAtoms t)).before a st = _
    rw [Jvm.Cond.before_and, ih, List.all_cons]
def words1 : List Jvm.Cond := Jvm.Cond.code x code maxLocals ret :: tables_1
/-- a 'code' word, met by the world's own term for the bytes: nothing is compared byte by byte -/
theorem code_word {y : MethodName} {bytes : ByteArray} {mx : Nat} {rt : Option FieldType} {a : Array Value} {s : State} {m : MethodId} {meth : Method} {c : Code} (h1 : s.methodNamed? y = some m) (h2 : s.vm.method? m = some meth) (h3 : meth.code = some c) (h4 : c.code = bytes)
    (h5 : (c.maxLocals == mx && c.exceptionTable.isEmpty && decide (c.maxStack ≤ mostOperands) && decide (meth.sig.returnType = rt) && !meth.locks && decide (parseMethodDescriptor y.desc = some meth.sig)) = true) : (Jvm.Cond.code y bytes mx rt).before a s = true := by
  simp only [Bool.and_eq_true, beq_iff_eq, Bool.not_eq_true', decide_eq_true_eq] at h5
  obtain ⟨⟨⟨⟨⟨g1, g2⟩, g3⟩, g4⟩, g5⟩, g6⟩ := h5
  simp [Cond.before, Cond.holds, Cond.value, h1, h2, h3, h4, g1, g2, g3, g4, g5, g6]
def isCode : Jvm.Cond → Bool
  | .code _ _ _ _ => true
  | _ => false
theorem all_split {L : List Jvm.Cond} {P : Jvm.Cond → Bool} (h1 : L.all (fun c => isCode c || P c) = true) (h2 : ∀ c ∈ L.filter isCode, P c = true) : L.all P = true := by
  refine List.all_eq_true.mpr fun c hc => ?_
  have h := List.all_eq_true.mp h1 c hc
  rcases Bool.eq_false_or_eq_true (isCode c) with hi | hi
  · exact h2 c (List.mem_filter.mpr ⟨hc, hi⟩)
  · simpa [hi] using h
set_option maxRecDepth 65536 in
theorem w_c0 : (Jvm.Cond.code x code maxLocals ret).before args0 about1 = true := code_word (m := ⟨1, 1⟩) (meth := k1m1) (c := k1c1) (by decide +kernel) rfl rfl rfl (by decide +kernel)
set_option maxRecDepth 65536 in
theorem w_c1 : (Jvm.Cond.code ({ cls := "com/example/mini_queue/miniqueue/CostCounters", name := "<init>", desc := "(JJJ)V" } : Jvm.MethodName) prog_2_method_1_code (7 : Nat) (Option.none : Option Jvm.ClassFile.FieldType)).before args0 about1 = true := code_word (m := ⟨3, 0⟩) (meth := k3m0) (c := k3c0) (by decide +kernel) rfl rfl rfl (by decide +kernel)
set_option maxRecDepth 65536 in
theorem w_c2 : (Jvm.Cond.code ({ cls := "java/lang/Record", name := "<init>", desc := "()V" } : Jvm.MethodName) jdk_30_method_1_code (1 : Nat) (Option.none : Option Jvm.ClassFile.FieldType)).before args0 about1 = true := code_word (m := ⟨2, 0⟩) (meth := k2m0) (c := k2c0) (by decide +kernel) rfl rfl rfl (by decide +kernel)
set_option maxRecDepth 65536 in
theorem w_c3 : (Jvm.Cond.code ({ cls := "java/lang/Object", name := "<init>", desc := "()V" } : Jvm.MethodName) object_method_1_code (1 : Nat) (Option.none : Option Jvm.ClassFile.FieldType)).before args0 about1 = true := code_word (m := ⟨0, 0⟩) (meth := k0m0) (c := k0c0) (by decide +kernel) rfl rfl rfl (by decide +kernel)
set_option maxRecDepth 65536 in
theorem w_c4 : (Jvm.Cond.code ({ cls := "com/example/mini_queue/miniqueue/CostCounters", name := "since", desc := "(Lcom/example/mini_queue/miniqueue/CostCounters;)Lcom/example/mini_queue/miniqueue/CostCounters;" } : Jvm.MethodName) prog_2_method_2_code (2 : Nat) (Option.some (Jvm.ClassFile.FieldType.object "com/example/mini_queue/miniqueue/CostCounters"))).before args0 about1 = true := code_word (m := ⟨3, 1⟩) (meth := k3m1) (c := k3c1) (by decide +kernel) rfl rfl rfl (by decide +kernel)
set_option maxRecDepth 65536 in
theorem w_c5 : (Jvm.Cond.code ({ cls := "com/example/mini_queue/miniqueue/CostCounters", name := "walBytes", desc := "()J" } : Jvm.MethodName) prog_2_method_6_code (1 : Nat) (Option.some Jvm.ClassFile.FieldType.long)).before args0 about1 = true := code_word (m := ⟨3, 2⟩) (meth := k3m2) (c := k3c2) (by decide +kernel) rfl rfl rfl (by decide +kernel)
set_option maxRecDepth 65536 in
theorem w_c6 : (Jvm.Cond.code ({ cls := "com/example/mini_queue/miniqueue/CostCounters", name := "jobsBuffers", desc := "()J" } : Jvm.MethodName) prog_2_method_7_code (1 : Nat) (Option.some Jvm.ClassFile.FieldType.long)).before args0 about1 = true := code_word (m := ⟨3, 3⟩) (meth := k3m3) (c := k3c3) (by decide +kernel) rfl rfl rfl (by decide +kernel)
set_option maxRecDepth 65536 in
theorem w_c7 : (Jvm.Cond.code ({ cls := "com/example/mini_queue/miniqueue/CostCounters", name := "jobsRowVersions", desc := "()J" } : Jvm.MethodName) prog_2_method_8_code (1 : Nat) (Option.some Jvm.ClassFile.FieldType.long)).before args0 about1 = true := code_word (m := ⟨3, 4⟩) (meth := k3m4) (c := k3c4) (by decide +kernel) rfl rfl rfl (by decide +kernel)
def codes1 : List Jvm.Cond := [Jvm.Cond.code x code maxLocals ret, Jvm.Cond.code ({ cls := "com/example/mini_queue/miniqueue/CostCounters", name := "<init>", desc := "(JJJ)V" } : Jvm.MethodName) prog_2_method_1_code (7 : Nat) (Option.none : Option Jvm.ClassFile.FieldType), Jvm.Cond.code ({ cls := "java/lang/Record", name := "<init>", desc := "()V" } : Jvm.MethodName) jdk_30_method_1_code (1 : Nat) (Option.none : Option Jvm.ClassFile.FieldType), Jvm.Cond.code ({ cls := "java/lang/Object", name := "<init>", desc := "()V" } : Jvm.MethodName) object_method_1_code (1 : Nat) (Option.none : Option Jvm.ClassFile.FieldType), Jvm.Cond.code ({ cls := "com/example/mini_queue/miniqueue/CostCounters", name := "since", desc := "(Lcom/example/mini_queue/miniqueue/CostCounters;)Lcom/example/mini_queue/miniqueue/CostCounters;" } : Jvm.MethodName) prog_2_method_2_code (2 : Nat) (Option.some (Jvm.ClassFile.FieldType.object "com/example/mini_queue/miniqueue/CostCounters")), Jvm.Cond.code ({ cls := "com/example/mini_queue/miniqueue/CostCounters", name := "walBytes", desc := "()J" } : Jvm.MethodName) prog_2_method_6_code (1 : Nat) (Option.some Jvm.ClassFile.FieldType.long), Jvm.Cond.code ({ cls := "com/example/mini_queue/miniqueue/CostCounters", name := "jobsBuffers", desc := "()J" } : Jvm.MethodName) prog_2_method_7_code (1 : Nat) (Option.some Jvm.ClassFile.FieldType.long), Jvm.Cond.code ({ cls := "com/example/mini_queue/miniqueue/CostCounters", name := "jobsRowVersions", desc := "()J" } : Jvm.MethodName) prog_2_method_8_code (1 : Nat) (Option.some Jvm.ClassFile.FieldType.long)]
set_option maxRecDepth 65536 in
theorem codes_eq : words1.filter isCode = codes1 := rfl
theorem w_codes : ∀ c ∈ words1.filter isCode, c.before args0 about1 = true := by
  rw [codes_eq]
  intro c hc
  simp only [codes1, List.mem_cons, List.not_mem_nil, or_false] at hc
  rcases hc with rfl | rfl | rfl | rfl | rfl | rfl | rfl | rfl
  · exact w_c0
  · exact w_c1
  · exact w_c2
  · exact w_c3
  · exact w_c4
  · exact w_c5
  · exact w_c6
  · exact w_c7
set_option maxRecDepth 65536 in
theorem w_t1 : (words1.take 24).all (fun c => isCode c || c.before args0 about1) = true := by decide +kernel
set_option maxRecDepth 65536 in
theorem w_t2 : (words1.drop 24).all (fun c => isCode c || c.before args0 about1) = true := by decide +kernel
theorem w_tables : (allAtoms (Jvm.Cond.code x code maxLocals ret :: tables_1)).before args0 about1 = true := by
  rw [allAtoms_all]
  show words1.all (fun c => c.before args0 about1) = true
  refine all_split ?_ w_codes
  rw [← List.take_append_drop 24 words1, List.all_append, w_t1, w_t2]
  rfl
set_option maxRecDepth 65536 in
theorem w_case : (Jvm.Cond.and given_1 narrow_1).before args0 about1 = true := by decide +kernel
theorem w_applies : (headSpec (Jvm.Cond.code x code maxLocals ret :: tables_1) room_1).applies x e0.platform about1 = true :=
  (Spec.applies_iff w_frames).mpr ⟨w_running, w_runnable, w_alone, w_named, w_hears, w_ripe, w_room, w_tables⟩
theorem atStart : AtStart classFile x code maxLocals ret World_1 tables_1 room_1 Calls_1 rest_1 Pre_1 launch0 p0 e0 about1 theMethod args0 below0 :=
  ⟨lists_1, trivial, launch0.admits_env _ _ _, launch0.least_env, fairChoices_fair.cas, fairChoices_fair.clock, w_frames, w_args, w_heap, w_applies, trivial, trivial, w_case⟩
end start1
theorem witness_1 : WitnessClaimed_1 := ⟨start1.p0, start1.e0, start1.about1, start1.theMethod, start1.args0, start1.below0, start1.atStart⟩
end Jvm.Pilot.@@N@@
