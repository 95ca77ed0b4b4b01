import JvmDerived
import JvmDerived.Pilot.@@N@@Statement
import JvmDerived.Pilot.@@N@@Code
set_option linter.unusedVariables false
set_option linter.unusedSimpArgs false
namespace Jvm.RoadKit
open Sem ClassFile Op Lib Jvm.Stand Jvm.Free Jvm.LawKit
section OwnKit
variable {p : Program} {l : Launch} {e : Env} {R : Room} {s : State} {m : MethodId} {args : Array Value} {below : List Frame} {meth : Method} {c : Code} {T : State} {locs : List Loc} {cells slots : Nat}
def EndsQ (tb : Tables) (e : Env) (below : List Frame) (s : State) (Qv : Option Value → Heap → List Loc → Prop) (rc rs : Nat) (st : State) : Prop :=
  ∃ s₂ o, Steps tb e below st s₂ ∧ s₂.status = .running ∧ Ended s₂ below o ∧ ∃ v L, o = .returned v ∧ Qv v s₂.heap L ∧ FrameEnd s o s₂ L rc rs
theorem EndsQ.go {tb : Tables} {Qv : Option Value → Heap → List Loc → Prop} {rc rs : Nat} {a b : State} (k : ∀ t, Steps tb e below b t → Steps tb e below a t) (h : EndsQ tb e below s Qv rc rs b) : EndsQ tb e below s Qv rc rs a := by
  obtain ⟨s₂, o, h1, h2⟩ := h
  exact ⟨s₂, o, k _ h1, h2⟩
theorem EndsQ.out (X : Stand p l e R s m args below meth c T locs cells slots) (hlk : meth.locks = false) {Qv : Option Value → Heap → List Loc → Prop} {rc rs : Nat} {v : Option Value} {st : State} (hv : meth.sig.returnType = none → v = none)
    (hs : ∀ fs, (∀ (f : JFrame) (acts : List Action), f.method = m → f.locked = none → f.entered = [] → (doReturn e (T.setTop f) acts v).1 = T.setFrames fs) → Steps p.tables e below st (T.setFrames fs))
    (h1 : cells ≤ rc) (h2 : slots ≤ rs) (hq : Qv v T.heap locs) : EndsQ p.tables e below s Qv rc rs st := by
  obtain ⟨fs, hr, hrun, hended, hW, hsame⟩ := X.leave (v := v) hv hlk
  exact ⟨_, _, hs fs hr, hrun, hended, _, _, rfl, hq, ⟨_, rfl⟩, hW, hsame.mono h1 h2⟩
theorem EndsQ.retI (X : Stand p l e R s m args below meth c T locs cells slots) (hx : p.tables.exec = Jvm.exec) (hlk : meth.locks = false) {Qv : Option Value → Heap → List Loc → Prop} {rc rs pc : Nat} {Ls : Array Slot} {z : Int32} {rest : List Value} (hret : meth.sig.returnType = some .int) (hd : decode c.code pc = .ok (.ireturn, 1))
    (h1 : cells ≤ rc) (h2 : slots ≤ rs) (hq : Qv (some (.int z)) T.heap locs) : EndsQ p.tables e below s Qv rc rs (T.setTop (mkF m pc Ls (.int z :: rest))) := by
  refine EndsQ.out X hlk (v := some (.int z)) (fun h => by rw [hret] at h; cases h) (fun fs hr => ?_) h1 h2 hq
  exact retOut X hx hret rfl (Or.inl ⟨rfl, Or.inl rfl, z, rfl⟩) hd hr
theorem EndsQ.retJ (X : Stand p l e R s m args below meth c T locs cells slots) (hx : p.tables.exec = Jvm.exec) (hlk : meth.locks = false) {Qv : Option Value → Heap → List Loc → Prop} {rc rs pc : Nat} {Ls : Array Slot} {z : Int64} {rest : List Value} (hret : meth.sig.returnType = some .long) (hd : decode c.code pc = .ok (.lreturn, 1))
    (h1 : cells ≤ rc) (h2 : slots ≤ rs) (hq : Qv (some (.long z)) T.heap locs) : EndsQ p.tables e below s Qv rc rs (T.setTop (mkF m pc Ls (.long z :: rest))) := by
  refine EndsQ.out X hlk (v := some (.long z)) (fun h => by rw [hret] at h; cases h) (fun fs hr => ?_) h1 h2 hq
  exact retOut X hx hret rfl (Or.inr (Or.inl ⟨rfl, rfl, z, rfl⟩)) hd hr
theorem EndsQ.retA (X : Stand p l e R s m args below meth c T locs cells slots) (hx : p.tables.exec = Jvm.exec) (hlk : meth.locks = false) {Qv : Option Value → Heap → List Loc → Prop} {rc rs pc : Nat} {Ls : Array Slot} {w : Value} {t : FieldType} {rest : List Value} (hret : meth.sig.returnType = some t) (ht : t.isReference = true) (hw : w.isRef = true) (hn : narrow t w = w) (hd : decode c.code pc = .ok (.areturn, 1))
    (h1 : cells ≤ rc) (h2 : slots ≤ rs) (hq : Qv (some w) T.heap locs) : EndsQ p.tables e below s Qv rc rs (T.setTop (mkF m pc Ls (w :: rest))) := by
  refine EndsQ.out X hlk (v := some w) (fun h => by rw [hret] at h; cases h) (fun fs hr => ?_) h1 h2 hq
  exact retOut X hx hret hn (Or.inr (Or.inr (Or.inr (Or.inr ⟨rfl, ht, hw⟩)))) hd hr
theorem EndsQ.retN (X : Stand p l e R s m args below meth c T locs cells slots) (hx : p.tables.exec = Jvm.exec) (hlk : meth.locks = false) {Qv : Option Value → Heap → List Loc → Prop} {rc rs pc : Nat} {Ls : Array Slot} {z : Int32} {t : FieldType} {rest : List Value} (hret : meth.sig.returnType = some t) (ht : t = .boolean ∨ t = .byte ∨ t = .char ∨ t = .short) (hd : decode c.code pc = .ok (.ireturn, 1))
    (h1 : cells ≤ rc) (h2 : slots ≤ rs) (hq : Qv (some (.int (nar t z))) T.heap locs) : EndsQ p.tables e below s Qv rc rs (T.setTop (mkF m pc Ls (.int z :: rest))) := by
  refine EndsQ.out X hlk (v := some (.int (nar t z))) (fun h => by rw [hret] at h; cases h) (fun fs hr => ?_) h1 h2 hq
  exact Jvm.RoadKit.retN X hx hret ht hd hr
theorem EndsQ.retV (X : Stand p l e R s m args below meth c T locs cells slots) (hx : p.tables.exec = Jvm.exec) (hlk : meth.locks = false) {Qv : Option Value → Heap → List Loc → Prop} {rc rs pc : Nat} {Ls : Array Slot} (hret : meth.sig.returnType = none) (hd : decode c.code pc = .ok (.return_, 1))
    (h1 : cells ≤ rc) (h2 : slots ≤ rs) (hq : Qv none T.heap locs) : EndsQ p.tables e below s Qv rc rs (T.setTop (mkF m pc Ls [])) := by
  refine EndsQ.out X hlk (v := none) (fun _ => rfl) (fun fs hr => ?_) h1 h2 hq
  exact X.returnOut hx hret hd hr
end OwnKit
end Jvm.RoadKit
namespace Jvm.Pilot.@@N@@
open Jvm Jvm.ClassFile Sem Op Lib Jvm.Free Jvm.Stand Jvm.LawKit Jvm.RoadKit Bundle Jvm.Pilot.@@N@@.Jvm.D

def own_rows (p : Int32) : Int64 := if p = (0 : Int32) then (0 : Int64) else (1 : Int64)
theorem own_bit (x : Int32) : (x &&& (1 : Int32)) = 0 ∨ (x &&& (1 : Int32)) = 1 := and_one x
theorem own_z (x : Int32) (h : (x &&& (1 : Int32)) = 0) : own_rows (nar .boolean (0 : Int32)) = (x &&& (1 : Int32)).toInt64 := by rw [h]; rfl
theorem own_o (x : Int32) (h : ¬ (x &&& (1 : Int32)) = 0) : own_rows (nar .boolean (1 : Int32)) = (x &&& (1 : Int32)).toInt64 := by
  rw [(own_bit x).resolve_left h]; rfl
theorem d2_0 : decode jdk_30_method_1_code 0 = .ok (.aload_n 0, 1) := by decide +kernel
theorem d2_1 : decode jdk_30_method_1_code 1 = .ok (.invokespecial 1, 3) := by decide +kernel
theorem d2_4 : decode jdk_30_method_1_code 4 = .ok (.return_, 1) := by decide +kernel
theorem pn_2 : plainName "java/lang/Record" = true := by first | (simp [plainName, overriddenIn]; done) | decide +kernel
theorem d1_0 : decode prog_38_method_1_code 0 = .ok (.aload_n 0, 1) := by decide +kernel
theorem d1_1 : decode prog_38_method_1_code 1 = .ok (.invokespecial 1, 3) := by decide +kernel
theorem d1_4 : decode prog_38_method_1_code 4 = .ok (.aload_n 0, 1) := by decide +kernel
theorem d1_5 : decode prog_38_method_1_code 5 = .ok (.iload_n 1, 1) := by decide +kernel
theorem d1_6 : decode prog_38_method_1_code 6 = .ok (.putfield 7, 3) := by decide +kernel
theorem d1_9 : decode prog_38_method_1_code 9 = .ok (.return_, 1) := by decide +kernel
theorem pn_1 : plainName "com/example/chainmesh/chainmesh/QueryResult$Bool" = true := by first | (simp [plainName, overriddenIn]; done) | decide +kernel
theorem d4_0 : decode prog_38_method_2_code 0 = .ok (.aload_n 0, 1) := by decide +kernel
theorem d4_1 : decode prog_38_method_2_code 1 = .ok (.getfield 7, 3) := by decide +kernel
theorem d4_4 : decode prog_38_method_2_code 4 = .ok (.ifCond .eq 7, 3) := by decide +kernel
theorem d4_7 : decode prog_38_method_2_code 7 = .ok (.lconst 1, 1) := by decide +kernel
theorem d4_8 : decode prog_38_method_2_code 8 = .ok (.goto 4, 3) := by decide +kernel
theorem d4_11 : decode prog_38_method_2_code 11 = .ok (.lconst 0, 1) := by decide +kernel
theorem d4_12 : decode prog_38_method_2_code 12 = .ok (.lreturn, 1) := by decide +kernel
theorem pn_4 : plainName "com/example/chainmesh/chainmesh/QueryResult$Bool" = true := by first | (simp [plainName, overriddenIn]; done) | decide +kernel
theorem d5_0 : decode prog_38_method_6_code 0 = .ok (.aload_n 0, 1) := by decide +kernel
theorem d5_1 : decode prog_38_method_6_code 1 = .ok (.getfield 7, 3) := by decide +kernel
theorem d5_4 : decode prog_38_method_6_code 4 = .ok (.ireturn, 1) := by decide +kernel
theorem pn_5 : plainName "com/example/chainmesh/chainmesh/QueryResult$Bool" = true := by first | (simp [plainName, overriddenIn]; done) | decide +kernel
theorem pn_0 : plainName "com/example/chainmesh/chainmesh/BoolRowCountPinLaw" = true := by first | (simp [plainName, overriddenIn]; done) | decide +kernel
theorem pd_0 : parseMethodDescriptor "()V" = some ⟨[], none⟩ := by decide +kernel
theorem pd_1 : parseMethodDescriptor "(Z)V" = some ⟨[.boolean], none⟩ := by decide +kernel
theorem pd_2 : parseMethodDescriptor "()J" = some ⟨[], some .long⟩ := by decide +kernel
theorem pd_3 : parseMethodDescriptor "()Z" = some ⟨[], some .boolean⟩ := by decide +kernel
theorem ef_2 (m : MethodId) (x0 : Addr) : entryFrame m #[(.ref x0)] 1 = mkF m 0 #[.val (.ref x0)] [] := by first | (simp [entryFrame, mkF, argsToLocals, Value.category]; done) | rfl
def Q2 (Z : State) (a1 : Addr) (h0 : Heap) (n0 : Nat) (v : Option Value) (h : Heap) (L : List Loc) : Prop := v = none ∧ Fr n0 L ∧ h = h0
set_option maxRecDepth 65536 in
set_option maxHeartbeats 40000000 in
theorem rm2 (l : Launch) (Z : State) (a0 : Array Value) (hw : ∀ d ∈ tables_1, d.before a0 Z = true) (ws : List Jvm.Cond) (a1 : Addr) (h0 : Heap) (n0 : Nat) (Z0 : n0 ≤ h0.size) :
    MetFree l (⟨"java/lang/Record", "<init>", "()V"⟩ : MethodName) (head1 (Jvm.Cond.code (⟨"java/lang/Record", "<init>", "()V"⟩ : MethodName) jdk_30_method_1_code 1 none :: ws) ({ frames := 1, cells := 0, slots := 0, locals := 12 } : Room)) (fun a U => a = #[(.ref a1)] ∧ Z.Warmed39 U.vm ∧ U.heap = h0) (fun _ _ _ _ _ => True) (fun _ U o U' => ∃ v L, o = .returned v ∧ Q2 Z a1 h0 n0 v U'.heap L ∧ FrameEnd U o U' L ({ frames := 1, cells := 0, slots := 0, locals := 12 } : Room).cells ({ frames := 1, cells := 0, slots := 0, locals := 12 } : Room).slots) := by
  refine MetFree.of_bodySF (plainFor_of_name pn_2) hisR ?_
  intro p e s m args below meth c s₁ Bd hml0 hP hK
  obtain ⟨rfl, hZ, hh⟩ := hP
  have hx := Bd.exec
  have hby := Bd.bytes
  have hml : c.maxLocals = 1 := hml0
  have hown : s.vm.findClass "java/lang/Record" = some m.cls := findClass_of_methodNamed Bd.named
  have hnm := (name_of_methodNamed Bd.named Bd.method).1
  have X0 : Stand p l e ({ frames := 1, cells := 0, slots := 0, locals := 12 } : Room) s m #[(.ref a1)] below meth c s₁ [] 0 0 := Stand.of_body Bd
  have e0 : s₁.heap = h0 := by rw [← hh, Bd.state]; rfl
  have N0 := Fr.nil n0
  show EndsQ p.tables e below s (fun v h L => Q2 Z a1 h0 n0 v h L) ({ frames := 1, cells := 0, slots := 0, locals := 12 } : Room).cells ({ frames := 1, cells := 0, slots := 0, locals := 12 } : Room).slots _
  refine EndsQ.go (b := s₁.setTop (mkF m 0 #[.val (.ref a1)] [])) (fun t k => castTop (ef_2 m a1) k) ?_
  refine EndsQ.go (b := s₁.setTop (mkF m 1 #[.val (.ref a1)] [(.ref a1)])) (fun t k => ?_) ?_
  · show Steps p.tables e below (s₁.setTop (mkF m 0 #[.val (.ref a1)] [])) _
    refine XS.aloadN X0.here hx rfl (hb hby d2_0) rfl rfl ?_
    show Steps p.tables e below (s₁.setTop (mkF m 1 #[.val (.ref a1)] [(.ref a1)])) _
    exact k
  obtain ⟨T101, X101, e101, st101⟩ := initO X0 hx hZ hown (hw _ (List.mem_of_getElem? (i := 11) rfl)) (hw _ (List.mem_of_getElem? (i := 12) rfl)) (hw _ (List.mem_of_getElem? (i := 13) rfl)) e0 (g := (mkF m 1 #[.val (.ref a1)] [(.ref a1)])) rfl (by rw [hml]; rfl) rfl (hb hby d2_1) (by decide) (W := 0) (by show 2 * 0 + _ ≤ _; exact Nat.le_of_eq rfl) (by decide)
  refine EndsQ.go st101 ?_
  show EndsQ _ _ _ _ _ _ _ (T101.setTop (mkF m 4 #[.val (.ref a1)] []))
  refine EndsQ.retV X101 hx Bd.notSynchronized Bd.returns (hb hby d2_4) (by decide) (by decide) ?_
  show Q2 Z a1 h0 n0 (none) T101.heap _
  rw [e101]
  exact ⟨rfl, N0, rfl⟩
theorem ef_1 (m : MethodId) (x0 : Addr) (x1 : Int32) : entryFrame m #[(.ref x0), (.int x1)] 2 = mkF m 0 #[.val (.ref x0), .val (.int x1)] [] := by first | (simp [entryFrame, mkF, argsToLocals, Value.category]; done) | rfl
def Q1 (Z : State) (a1 : Addr) (p2 : Int32) (h0 : Heap) (n0 : Nat) (v : Option Value) (h : Heap) (L : List Loc) : Prop := v = none ∧ Fr n0 L ∧ Keep h0 h [a1] ∧ Exa Z h a1 "com/example/chainmesh/chainmesh/QueryResult$Bool" ∧ Fld Z h a1 "com/example/chainmesh/chainmesh/QueryResult$Bool" "value" "Z" (.int (nar .boolean p2))
set_option maxRecDepth 65536 in
set_option maxHeartbeats 40000000 in
theorem rm1 (l : Launch) (Z : State) (a0 : Array Value) (hw : ∀ d ∈ tables_1, d.before a0 Z = true) (ws : List Jvm.Cond) (a1 : Addr) (p2 : Int32) (h0 : Heap) (n0 : Nat) (Z0 : n0 ≤ h0.size) (F_value : Fld Z h0 a1 "com/example/chainmesh/chainmesh/QueryResult$Bool" "value" "Z" (.int (0 : Int32))) (E1 : Exa Z h0 a1 "com/example/chainmesh/chainmesh/QueryResult$Bool") (g1 : n0 ≤ a1) :
    MetFree l (⟨"com/example/chainmesh/chainmesh/QueryResult$Bool", "<init>", "(Z)V"⟩ : MethodName) (head1 (Jvm.Cond.code (⟨"com/example/chainmesh/chainmesh/QueryResult$Bool", "<init>", "(Z)V"⟩ : MethodName) prog_38_method_1_code 2 none :: ws) ({ frames := 2, cells := 0, slots := 0, locals := 24 } : Room)) (fun a U => a = #[(.ref a1), (.int p2)] ∧ Z.Warmed39 U.vm ∧ U.heap = h0) (fun _ _ _ _ _ => True) (fun _ U o U' => ∃ v L, o = .returned v ∧ Q1 Z a1 p2 h0 n0 v U'.heap L ∧ FrameEnd U o U' L ({ frames := 2, cells := 0, slots := 0, locals := 24 } : Room).cells ({ frames := 2, cells := 0, slots := 0, locals := 24 } : Room).slots) := by
  refine MetFree.of_bodySF (plainFor_of_name pn_1) hisR ?_
  intro p e s m args below meth c s₁ Bd hml0 hP hK
  obtain ⟨rfl, hZ, hh⟩ := hP
  have hx := Bd.exec
  have hby := Bd.bytes
  have hml : c.maxLocals = 2 := hml0
  have hown : s.vm.findClass "com/example/chainmesh/chainmesh/QueryResult$Bool" = some m.cls := findClass_of_methodNamed Bd.named
  have hnm := (name_of_methodNamed Bd.named Bd.method).1
  have X0 : Stand p l e ({ frames := 2, cells := 0, slots := 0, locals := 24 } : Room) s m #[(.ref a1), (.int p2)] below meth c s₁ [] 0 0 := Stand.of_body Bd
  have e0 : s₁.heap = h0 := by rw [← hh, Bd.state]; rfl
  have N0 := Fr.nil n0
  show EndsQ p.tables e below s (fun v h L => Q1 Z a1 p2 h0 n0 v h L) ({ frames := 2, cells := 0, slots := 0, locals := 24 } : Room).cells ({ frames := 2, cells := 0, slots := 0, locals := 24 } : Room).slots _
  refine EndsQ.go (b := s₁.setTop (mkF m 0 #[.val (.ref a1), .val (.int p2)] [])) (fun t k => castTop (ef_1 m a1 p2) k) ?_
  have K0 : Keep h0 h0 [a1] := Keep.refl _ _
  refine EndsQ.go (b := s₁.setTop (mkF m 1 #[.val (.ref a1), .val (.int p2)] [(.ref a1)])) (fun t k => ?_) ?_
  · show Steps p.tables e below (s₁.setTop (mkF m 0 #[.val (.ref a1), .val (.int p2)] [])) _
    refine XS.aloadN X0.here hx rfl (hb hby d1_0) rfl rfl ?_
    show Steps p.tables e below (s₁.setTop (mkF m 1 #[.val (.ref a1), .val (.int p2)] [(.ref a1)])) _
    exact k
  obtain ⟨_, _, ⟨T101, L101, kk101, nn101⟩, -, X101, ⟨Lc101, hQ101, l101, y101, z101⟩, st101⟩ := X0.specialBack hx (y := (⟨"java/lang/Record", "<init>", "()V"⟩ : MethodName)) rfl hown (mvT hZ (hw _ (List.mem_of_getElem? (i := 6) rfl))) (mvT hZ (hw _ (List.mem_of_getElem? (i := 7) rfl))) (mvT hZ (hw _ (List.mem_of_getElem? (i := 10) rfl))) (by decide) (backOf (W := 0) (rm2 l Z a0 hw [] a1 h0 n0 Z0 ) hZ (hw _ (List.mem_of_getElem? (i := 10) rfl)) (hw _ (List.mem_of_getElem? (i := 9) rfl)) (by decide) (by decide)) (g := (mkF m 1 #[.val (.ref a1), .val (.int p2)] [(.ref a1)])) rfl (by rw [hml]; rfl) (Steps.refl _) (a := a1) (argsL := []) (rest := []) (lenOf pd_0 rfl) rfl (by show 2 * 0 + _ ≤ _; exact Nat.le_of_eq rfl) (hb hby d1_1) (fun _ _ => ⟨rfl, e0, (by decide : 0 + 0 ≤ _), (by decide : 0 + 0 ≤ _)⟩)
  dsimp only [Pt.U, Pt.locs, Pt.cells, Pt.slots] at X101 l101 y101 z101 st101 hQ101
  subst l101 y101 z101
  obtain ⟨rfl, Nq101, eq101⟩ := hQ101
  have N101 := Fr.app N0 Nq101
  refine EndsQ.go (fun t k => st101.trans k) ?_
  show EndsQ _ _ _ _ _ _ _ (T101.setTop (mkF m 4 #[.val (.ref a1), .val (.int p2)] []))
  refine EndsQ.go (b := T101.setTop (mkF m 6 #[.val (.ref a1), .val (.int p2)] [(.int p2), (.ref a1)])) (fun t k => ?_) ?_
  · show Steps p.tables e below (T101.setTop (mkF m 4 #[.val (.ref a1), .val (.int p2)] [])) _
    refine XS.aloadN X101.here hx rfl (hb hby d1_4) rfl rfl ?_
    show Steps p.tables e below (T101.setTop (mkF m 5 #[.val (.ref a1), .val (.int p2)] [(.ref a1)])) _
    refine XS.iloadN X101.here hx rfl (hb hby d1_5) rfl ?_
    show Steps p.tables e below (T101.setTop (mkF m 6 #[.val (.ref a1), .val (.int p2)] [(.int p2), (.ref a1)])) _
    exact k
  obtain ⟨T102, h102, X102, e102, W102, st102⟩ := putFN X101 hx hZ hown (hw _ (List.mem_of_getElem? (i := 14) rfl)) Via.refl eq101 F_value E1 (Or.inr ⟨(hw _ (List.mem_of_getElem? (i := 15) rfl)), rfl, hnm⟩) (hw _ (List.mem_of_getElem? (i := 1) rfl)) (ty := .boolean) (v' := (.int (nar .boolean p2))) (by decide) rfl (fits_nar_bool _) (g := (mkF m 6 #[.val (.ref a1), .val (.int p2)] [(.int p2), (.ref a1)])) rfl rfl (hb hby d1_6)
  have fw102 : Fld Z h102 a1 "com/example/chainmesh/chainmesh/QueryResult$Bool" "value" "Z" (.int (nar .boolean p2)) := F_value.same W102
  have f103 : Exa Z h102 a1 "com/example/chainmesh/chainmesh/QueryResult$Bool" := E1.wr W102
  have f104 : n0 ≤ h102.size := Nat.le_trans Z0 (Keep.of_wr W102).1
  have f105 : Keep h0 h102 [a1] := K0.wr W102 (Or.inl (List.mem_of_getElem? (i := 0) rfl))
  have N102 := Fr.snoc X102 N101 g1
  refine EndsQ.go st102 ?_
  show EndsQ _ _ _ _ _ _ _ (T102.setTop (mkF m 9 #[.val (.ref a1), .val (.int p2)] []))
  refine EndsQ.retV X102 hx Bd.notSynchronized Bd.returns (hb hby d1_9) (by decide) (by decide) ?_
  show Q1 Z a1 p2 h0 n0 (none) T102.heap _
  rw [e102]
  exact ⟨rfl, N102, f105, f103, fw102⟩
theorem ef_4 (m : MethodId) (x0 : Addr) : entryFrame m #[(.ref x0)] 1 = mkF m 0 #[.val (.ref x0)] [] := by first | (simp [entryFrame, mkF, argsToLocals, Value.category]; done) | rfl
def Q4 (Z : State) (a1 : Addr) (b2 : Int32) (h0 : Heap) (n0 : Nat) (v : Option Value) (h : Heap) (L : List Loc) : Prop := v = some (.long (own_rows b2)) ∧ Fr n0 L ∧ h = h0
set_option maxRecDepth 65536 in
set_option maxHeartbeats 40000000 in
theorem rm4 (l : Launch) (Z : State) (a0 : Array Value) (hw : ∀ d ∈ tables_1, d.before a0 Z = true) (ws : List Jvm.Cond) (a1 : Addr) (b2 : Int32) (h0 : Heap) (n0 : Nat) (Z0 : n0 ≤ h0.size) (F1 : Fld Z h0 a1 "com/example/chainmesh/chainmesh/QueryResult$Bool" "value" "Z" (.int b2)) :
    MetFree l (⟨"com/example/chainmesh/chainmesh/QueryResult$Bool", "rowCount", "()J"⟩ : MethodName) (head1 (Jvm.Cond.code (⟨"com/example/chainmesh/chainmesh/QueryResult$Bool", "rowCount", "()J"⟩ : MethodName) prog_38_method_2_code 1 (some .long) :: ws) ({ frames := 0, cells := 0, slots := 0, locals := 0 } : Room)) (fun a U => a = #[(.ref a1)] ∧ Z.Warmed39 U.vm ∧ U.heap = h0) (fun _ _ _ _ _ => True) (fun _ U o U' => ∃ v L, o = .returned v ∧ Q4 Z a1 b2 h0 n0 v U'.heap L ∧ FrameEnd U o U' L ({ frames := 0, cells := 0, slots := 0, locals := 0 } : Room).cells ({ frames := 0, cells := 0, slots := 0, locals := 0 } : Room).slots) := by
  refine MetFree.of_bodySF (plainFor_of_name pn_4) hisR ?_
  intro p e s m args below meth c s₁ Bd hml0 hP hK
  obtain ⟨rfl, hZ, hh⟩ := hP
  have hx := Bd.exec
  have hby := Bd.bytes
  have hml : c.maxLocals = 1 := hml0
  have hown : s.vm.findClass "com/example/chainmesh/chainmesh/QueryResult$Bool" = some m.cls := findClass_of_methodNamed Bd.named
  have hnm := (name_of_methodNamed Bd.named Bd.method).1
  have X0 : Stand p l e ({ frames := 0, cells := 0, slots := 0, locals := 0 } : Room) s m #[(.ref a1)] below meth c s₁ [] 0 0 := Stand.of_body Bd
  have e0 : s₁.heap = h0 := by rw [← hh, Bd.state]; rfl
  have N0 := Fr.nil n0
  show EndsQ p.tables e below s (fun v h L => Q4 Z a1 b2 h0 n0 v h L) ({ frames := 0, cells := 0, slots := 0, locals := 0 } : Room).cells ({ frames := 0, cells := 0, slots := 0, locals := 0 } : Room).slots _
  refine EndsQ.go (b := s₁.setTop (mkF m 0 #[.val (.ref a1)] [])) (fun t k => castTop (ef_4 m a1) k) ?_
  refine EndsQ.go (b := s₁.setTop (mkF m 1 #[.val (.ref a1)] [(.ref a1)])) (fun t k => ?_) ?_
  · show Steps p.tables e below (s₁.setTop (mkF m 0 #[.val (.ref a1)] [])) _
    refine XS.aloadN X0.here hx rfl (hb hby d4_0) rfl rfl ?_
    show Steps p.tables e below (s₁.setTop (mkF m 1 #[.val (.ref a1)] [(.ref a1)])) _
    exact k
  obtain ⟨T101, X101, e101, st101⟩ := getF X0 hx hZ hown (host := "") (Or.inl (hw _ (List.mem_of_getElem? (i := 14) rfl))) Via.refl e0 F1 (g := (mkF m 1 #[.val (.ref a1)] [(.ref a1)])) rfl rfl (hb hby d4_1)
  refine EndsQ.go st101 ?_
  show EndsQ _ _ _ _ _ _ _ (T101.setTop (mkF m 4 #[.val (.ref a1)] [(.int b2)]))
  by_cases hc4_102 : b2 = (0 : Int32)
  · refine EndsQ.go (b := T101.setTop (mkF m 11 #[.val (.ref a1)] [])) (fun t k => ?_) ?_
    · show Steps p.tables e below (T101.setTop (mkF m 4 #[.val (.ref a1)] [(.int b2)])) _
      refine XS.ifYes X101.here hx rfl (pc0 := 4) (pc' := 11) rfl (hb hby d4_4) rfl ((if0 _ _).trans (teq hc4_102).1) (by decide) (by decide) ?_
      show Steps p.tables e below (T101.setTop (mkF m 11 #[.val (.ref a1)] [])) _
      exact k
    refine EndsQ.go (b := T101.setTop (mkF m 12 #[.val (.ref a1)] [(.long (0 : Int64))])) (fun t k => ?_) ?_
    · show Steps p.tables e below (T101.setTop (mkF m 11 #[.val (.ref a1)] [])) _
      refine XS.lconst X101.here hx rfl (hb hby d4_11) ?_
      show Steps p.tables e below (T101.setTop (mkF m 12 #[.val (.ref a1)] [(.long (0 : Int64))])) _
      exact k
    refine EndsQ.retJ X101 hx Bd.notSynchronized Bd.returns (hb hby d4_12) (by decide) (by decide) ?_
    show Q4 Z a1 b2 h0 n0 (some (.long (0 : Int64))) T101.heap _
    rw [e101]
    exact ⟨by unfold own_rows; rw [if_pos hc4_102], N0, rfl⟩
  · refine EndsQ.go (b := T101.setTop (mkF m 7 #[.val (.ref a1)] [])) (fun t k => ?_) ?_
    · show Steps p.tables e below (T101.setTop (mkF m 4 #[.val (.ref a1)] [(.int b2)])) _
      refine XS.ifNo X101.here hx rfl (hb hby d4_4) rfl ((if0 _ _).trans (feq hc4_102).1) ?_
      show Steps p.tables e below (T101.setTop (mkF m 7 #[.val (.ref a1)] [])) _
      exact k
    refine EndsQ.go (b := T101.setTop (mkF m 12 #[.val (.ref a1)] [(.long (1 : Int64))])) (fun t k => ?_) ?_
    · show Steps p.tables e below (T101.setTop (mkF m 7 #[.val (.ref a1)] [])) _
      refine XS.lconst X101.here hx rfl (hb hby d4_7) ?_
      show Steps p.tables e below (T101.setTop (mkF m 8 #[.val (.ref a1)] [(.long (1 : Int64))])) _
      refine XS.goto X101.here hx rfl (pc0 := 8) (pc' := 12) rfl (hb hby d4_8) (by decide) (by decide) ?_
      show Steps p.tables e below (T101.setTop (mkF m 12 #[.val (.ref a1)] [(.long (1 : Int64))])) _
      exact k
    refine EndsQ.retJ X101 hx Bd.notSynchronized Bd.returns (hb hby d4_12) (by decide) (by decide) ?_
    show Q4 Z a1 b2 h0 n0 (some (.long (1 : Int64))) T101.heap _
    rw [e101]
    exact ⟨by unfold own_rows; rw [if_neg hc4_102], N0, rfl⟩
theorem ef_5 (m : MethodId) (x0 : Addr) : entryFrame m #[(.ref x0)] 1 = mkF m 0 #[.val (.ref x0)] [] := by first | (simp [entryFrame, mkF, argsToLocals, Value.category]; done) | rfl
def Q5 (Z : State) (a1 : Addr) (b2 : Int32) (h0 : Heap) (n0 : Nat) (v : Option Value) (h : Heap) (L : List Loc) : Prop := v = some (.int (nar .boolean b2)) ∧ Fr n0 L ∧ h = h0
set_option maxRecDepth 65536 in
set_option maxHeartbeats 40000000 in
theorem rm5 (l : Launch) (Z : State) (a0 : Array Value) (hw : ∀ d ∈ tables_1, d.before a0 Z = true) (ws : List Jvm.Cond) (a1 : Addr) (b2 : Int32) (h0 : Heap) (n0 : Nat) (Z0 : n0 ≤ h0.size) (F1 : Fld Z h0 a1 "com/example/chainmesh/chainmesh/QueryResult$Bool" "value" "Z" (.int b2)) :
    MetFree l (⟨"com/example/chainmesh/chainmesh/QueryResult$Bool", "value", "()Z"⟩ : MethodName) (head1 (Jvm.Cond.code (⟨"com/example/chainmesh/chainmesh/QueryResult$Bool", "value", "()Z"⟩ : MethodName) prog_38_method_6_code 1 (some .boolean) :: ws) ({ frames := 0, cells := 0, slots := 0, locals := 0 } : Room)) (fun a U => a = #[(.ref a1)] ∧ Z.Warmed39 U.vm ∧ U.heap = h0) (fun _ _ _ _ _ => True) (fun _ U o U' => ∃ v L, o = .returned v ∧ Q5 Z a1 b2 h0 n0 v U'.heap L ∧ FrameEnd U o U' L ({ frames := 0, cells := 0, slots := 0, locals := 0 } : Room).cells ({ frames := 0, cells := 0, slots := 0, locals := 0 } : Room).slots) := by
  refine MetFree.of_bodySF (plainFor_of_name pn_5) hisR ?_
  intro p e s m args below meth c s₁ Bd hml0 hP hK
  obtain ⟨rfl, hZ, hh⟩ := hP
  have hx := Bd.exec
  have hby := Bd.bytes
  have hml : c.maxLocals = 1 := hml0
  have hown : s.vm.findClass "com/example/chainmesh/chainmesh/QueryResult$Bool" = some m.cls := findClass_of_methodNamed Bd.named
  have hnm := (name_of_methodNamed Bd.named Bd.method).1
  have X0 : Stand p l e ({ frames := 0, cells := 0, slots := 0, locals := 0 } : Room) s m #[(.ref a1)] below meth c s₁ [] 0 0 := Stand.of_body Bd
  have e0 : s₁.heap = h0 := by rw [← hh, Bd.state]; rfl
  have N0 := Fr.nil n0
  show EndsQ p.tables e below s (fun v h L => Q5 Z a1 b2 h0 n0 v h L) ({ frames := 0, cells := 0, slots := 0, locals := 0 } : Room).cells ({ frames := 0, cells := 0, slots := 0, locals := 0 } : Room).slots _
  refine EndsQ.go (b := s₁.setTop (mkF m 0 #[.val (.ref a1)] [])) (fun t k => castTop (ef_5 m a1) k) ?_
  refine EndsQ.go (b := s₁.setTop (mkF m 1 #[.val (.ref a1)] [(.ref a1)])) (fun t k => ?_) ?_
  · show Steps p.tables e below (s₁.setTop (mkF m 0 #[.val (.ref a1)] [])) _
    refine XS.aloadN X0.here hx rfl (hb hby d5_0) rfl rfl ?_
    show Steps p.tables e below (s₁.setTop (mkF m 1 #[.val (.ref a1)] [(.ref a1)])) _
    exact k
  obtain ⟨T101, X101, e101, st101⟩ := getF X0 hx hZ hown (host := "") (Or.inl (hw _ (List.mem_of_getElem? (i := 14) rfl))) Via.refl e0 F1 (g := (mkF m 1 #[.val (.ref a1)] [(.ref a1)])) rfl rfl (hb hby d5_1)
  refine EndsQ.go st101 ?_
  show EndsQ _ _ _ _ _ _ _ (T101.setTop (mkF m 4 #[.val (.ref a1)] [(.int b2)]))
  refine EndsQ.retN X101 hx Bd.notSynchronized (t := .boolean) Bd.returns (by simp) (hb hby d5_4) (by decide) (by decide) ?_
  show Q5 Z a1 b2 h0 n0 (some (.int (nar .boolean b2))) T101.heap _
  rw [e101]
  exact ⟨rfl, N0, rfl⟩
theorem ef_0 (m : MethodId) (x0 : Int32) : entryFrame m #[(.int x0)] maxLocals = mkF m 0 #[.val (.int x0), .unset, .unset, .unset, .unset, .unset, .unset, .unset, .unset] [] := by first | (simp [entryFrame, mkF, argsToLocals, Value.category, maxLocals]; done) | rfl
def Q0 (Z : State) (p1 : Int32) (h0 : Heap) (n0 : Nat) (v : Option Value) (h : Heap) (L : List Loc) : Prop := v = some (.int 1) ∧ Fr n0 L
set_option maxRecDepth 65536 in
set_option maxHeartbeats 40000000 in
theorem rm0 (l : Launch) (Z : State) (a0 : Array Value) (hw : ∀ d ∈ tables_1, d.before a0 Z = true) (ws : List Jvm.Cond) (p1 : Int32) (h0 : Heap) (n0 : Nat) (Z0 : n0 ≤ h0.size) :
    MetFree l x (head1 (Jvm.Cond.code x code maxLocals ret :: ws) room_1) (fun a U => a = #[(.int p1)] ∧ Z.Warmed39 U.vm ∧ U.heap = h0) (fun _ _ _ _ _ => True) (fun _ U o U' => ∃ v L, o = .returned v ∧ Q0 Z p1 h0 n0 v U'.heap L ∧ FrameEnd U o U' L 16 128) := by
  refine MetFree.of_bodySF (plainFor_of_name pn_0) hisR ?_
  intro p e s m args below meth c s₁ Bd hml0 hP hK
  obtain ⟨rfl, hZ, hh⟩ := hP
  have hx := Bd.exec
  have hby := Bd.bytes
  have hml : c.maxLocals = 9 := hml0
  have hown : s.vm.findClass "com/example/chainmesh/chainmesh/BoolRowCountPinLaw" = some m.cls := findClass_of_methodNamed Bd.named
  have hnm := (name_of_methodNamed Bd.named Bd.method).1
  have X0 : Stand p l e room_1 s m #[(.int p1)] below meth c s₁ [] 0 0 := Stand.of_body Bd
  have e0 : s₁.heap = h0 := by rw [← hh, Bd.state]; rfl
  have N0 := Fr.nil n0
  show EndsQ p.tables e below s (fun v h L => Q0 Z p1 h0 n0 v h L) 16 128 _
  refine EndsQ.go (b := s₁.setTop (mkF m 0 #[.val (.int p1), .unset, .unset, .unset, .unset, .unset, .unset, .unset, .unset] [])) (fun t k => castTop (ef_0 m p1) k) ?_
  refine EndsQ.go (b := s₁.setTop (mkF m 5 #[.val (.int p1), .val (.int (p1 &&& (1 : Int32))), .unset, .unset, .unset, .unset, .unset, .unset, .unset] [(.int (p1 &&& (1 : Int32)))])) (fun t k => ?_) ?_
  · show Steps p.tables e below (s₁.setTop (mkF m 0 #[.val (.int p1), .unset, .unset, .unset, .unset, .unset, .unset, .unset, .unset] [])) _
    refine XS.iloadN X0.here hx rfl (hb hby at_0) rfl ?_
    show Steps p.tables e below (s₁.setTop (mkF m 1 #[.val (.int p1), .unset, .unset, .unset, .unset, .unset, .unset, .unset, .unset] [(.int p1)])) _
    refine XS.iconst X0.here hx rfl (hb hby at_1) ?_
    show Steps p.tables e below (s₁.setTop (mkF m 2 #[.val (.int p1), .unset, .unset, .unset, .unset, .unset, .unset, .unset, .unset] [(.int (1 : Int32)), (.int p1)])) _
    refine XS.iand X0.here hx rfl (hb hby at_2) rfl ?_
    show Steps p.tables e below (s₁.setTop (mkF m 3 #[.val (.int p1), .unset, .unset, .unset, .unset, .unset, .unset, .unset, .unset] [(.int (p1 &&& (1 : Int32)))])) _
    refine XS.istoreN X0.here hx rfl (hb hby at_3) rfl (l' := #[.val (.int p1), .val (.int (p1 &&& (1 : Int32))), .unset, .unset, .unset, .unset, .unset, .unset, .unset]) rfl ?_
    show Steps p.tables e below (s₁.setTop (mkF m 4 #[.val (.int p1), .val (.int (p1 &&& (1 : Int32))), .unset, .unset, .unset, .unset, .unset, .unset, .unset] [])) _
    refine XS.iloadN X0.here hx rfl (hb hby at_4) rfl ?_
    show Steps p.tables e below (s₁.setTop (mkF m 5 #[.val (.int p1), .val (.int (p1 &&& (1 : Int32))), .unset, .unset, .unset, .unset, .unset, .unset, .unset] [(.int (p1 &&& (1 : Int32)))])) _
    exact k
  by_cases hc5_101 : (p1 &&& (1 : Int32)) = (0 : Int32)
  · refine EndsQ.go (b := s₁.setTop (mkF m 12 #[.val (.int p1), .val (.int (p1 &&& (1 : Int32))), .unset, .unset, .unset, .unset, .unset, .unset, .unset] [])) (fun t k => ?_) ?_
    · show Steps p.tables e below (s₁.setTop (mkF m 5 #[.val (.int p1), .val (.int (p1 &&& (1 : Int32))), .unset, .unset, .unset, .unset, .unset, .unset, .unset] [(.int (p1 &&& (1 : Int32)))])) _
      refine XS.ifYes X0.here hx rfl (pc0 := 5) (pc' := 12) rfl (hb hby at_5) rfl ((if0 _ _).trans (teq hc5_101).1) (by decide) (by decide) ?_
      show Steps p.tables e below (s₁.setTop (mkF m 12 #[.val (.int p1), .val (.int (p1 &&& (1 : Int32))), .unset, .unset, .unset, .unset, .unset, .unset, .unset] [])) _
      exact k
    refine EndsQ.go (b := s₁.setTop (mkF m 14 #[.val (.int p1), .val (.int (p1 &&& (1 : Int32))), .val (.int (0 : Int32)), .unset, .unset, .unset, .unset, .unset, .unset] [])) (fun t k => ?_) ?_
    · show Steps p.tables e below (s₁.setTop (mkF m 12 #[.val (.int p1), .val (.int (p1 &&& (1 : Int32))), .unset, .unset, .unset, .unset, .unset, .unset, .unset] [])) _
      refine XS.iconst X0.here hx rfl (hb hby at_12) ?_
      show Steps p.tables e below (s₁.setTop (mkF m 13 #[.val (.int p1), .val (.int (p1 &&& (1 : Int32))), .unset, .unset, .unset, .unset, .unset, .unset, .unset] [(.int (0 : Int32))])) _
      refine XS.istoreN X0.here hx rfl (hb hby at_13) rfl (l' := #[.val (.int p1), .val (.int (p1 &&& (1 : Int32))), .val (.int (0 : Int32)), .unset, .unset, .unset, .unset, .unset, .unset]) rfl ?_
      show Steps p.tables e below (s₁.setTop (mkF m 14 #[.val (.int p1), .val (.int (p1 &&& (1 : Int32))), .val (.int (0 : Int32)), .unset, .unset, .unset, .unset, .unset, .unset] [])) _
      exact k
    obtain ⟨T102, h102, X102, e102, E102, A102, D102, -, st102⟩ := newO X0 hx hZ hown (hw _ (List.mem_of_getElem? (i := 0) rfl)) (hw _ (List.mem_of_getElem? (i := 1) rfl)) (hw _ (List.mem_of_getElem? (i := 2) rfl)) e0 (g := (mkF m 14 #[.val (.int p1), .val (.int (p1 &&& (1 : Int32))), .val (.int (0 : Int32)), .unset, .unset, .unset, .unset, .unset, .unset] [])) rfl (hb hby at_14) (by decide) (by decide)
    obtain ⟨b102, g102⟩ : ∃ z, z = h0.size := ⟨_, rfl⟩
    rw [← g102] at A102 D102 st102
    have gn102 : n0 ≤ b102 := Nat.le_trans Z0 (Nat.le_of_eq g102.symm)
    have f103 : n0 ≤ h102.size := Nat.le_trans Z0 E102.1
    have f104 : Fld Z h102 b102 "com/example/chainmesh/chainmesh/QueryResult$Bool" "value" "Z" (.int (0 : Int32)) := D102 (Or.inr (hw _ (List.mem_of_getElem? (i := 15) rfl))) (ty := .boolean) (by decide)
    refine EndsQ.go st102 ?_
    show EndsQ _ _ _ _ _ _ _ (T102.setTop (mkF m 17 #[.val (.int p1), .val (.int (p1 &&& (1 : Int32))), .val (.int (0 : Int32)), .unset, .unset, .unset, .unset, .unset, .unset] [(.ref b102)]))
    refine EndsQ.go (b := T102.setTop (mkF m 19 #[.val (.int p1), .val (.int (p1 &&& (1 : Int32))), .val (.int (0 : Int32)), .unset, .unset, .unset, .unset, .unset, .unset] [(.int (0 : Int32)), (.ref b102), (.ref b102)])) (fun t k => ?_) ?_
    · show Steps p.tables e below (T102.setTop (mkF m 17 #[.val (.int p1), .val (.int (p1 &&& (1 : Int32))), .val (.int (0 : Int32)), .unset, .unset, .unset, .unset, .unset, .unset] [(.ref b102)])) _
      refine XS.dup X102.here hx rfl (hb hby at_17) rfl rfl ?_
      show Steps p.tables e below (T102.setTop (mkF m 18 #[.val (.int p1), .val (.int (p1 &&& (1 : Int32))), .val (.int (0 : Int32)), .unset, .unset, .unset, .unset, .unset, .unset] [(.ref b102), (.ref b102)])) _
      refine XS.iloadN X102.here hx rfl (hb hby at_18) rfl ?_
      show Steps p.tables e below (T102.setTop (mkF m 19 #[.val (.int p1), .val (.int (p1 &&& (1 : Int32))), .val (.int (0 : Int32)), .unset, .unset, .unset, .unset, .unset, .unset] [(.int (0 : Int32)), (.ref b102), (.ref b102)])) _
      exact k
    obtain ⟨_, _, ⟨T105, L105, kk105, nn105⟩, -, X105, ⟨Lc105, hQ105, l105, y105, z105⟩, st105⟩ := X102.specialBack hx (y := (⟨"com/example/chainmesh/chainmesh/QueryResult$Bool", "<init>", "(Z)V"⟩ : MethodName)) rfl hown (mvT hZ (hw _ (List.mem_of_getElem? (i := 3) rfl))) (mvT hZ (hw _ (List.mem_of_getElem? (i := 4) rfl))) (mvT hZ (hw _ (List.mem_of_getElem? (i := 5) rfl))) (by decide) (backOf (W := 1) (rm1 l Z a0 hw [] b102 (0 : Int32) h102 n0 f103 f104 A102 gn102 ) hZ (hw _ (List.mem_of_getElem? (i := 5) rfl)) (hw _ (List.mem_of_getElem? (i := 2) rfl)) (by decide) (by decide)) (g := (mkF m 19 #[.val (.int p1), .val (.int (p1 &&& (1 : Int32))), .val (.int (0 : Int32)), .unset, .unset, .unset, .unset, .unset, .unset] [(.int (0 : Int32)), (.ref b102), (.ref b102)])) rfl (by rw [hml]; rfl) (Steps.refl _) (a := b102) (argsL := [(.int (0 : Int32))]) (rest := [(.ref b102)]) (lenOf pd_1 rfl) rfl (by show 2 * 0 + _ ≤ _; exact Nat.le_of_eq rfl) (hb hby at_19) (fun _ _ => ⟨rfl, e102, (by decide : 1 + 0 ≤ _), (by decide : 1 + 0 ≤ _)⟩)
    dsimp only [Pt.U, Pt.locs, Pt.cells, Pt.slots] at X105 l105 y105 z105 st105 hQ105
    subst l105 y105 z105
    obtain ⟨rfl, Nq105, K105, Ex105, F105_value⟩ := hQ105
    have N105 := Fr.app N0 Nq105
    have f106 : n0 ≤ T105.heap.size := Nat.le_trans f103 K105.1
    refine EndsQ.go (fun t k => st105.trans k) ?_
    show EndsQ _ _ _ _ _ _ _ (T105.setTop (mkF m 22 #[.val (.int p1), .val (.int (p1 &&& (1 : Int32))), .val (.int (0 : Int32)), .unset, .unset, .unset, .unset, .unset, .unset] [(.ref b102)]))
    refine EndsQ.go (b := T105.setTop (mkF m 28 #[.val (.int p1), .val (.int (p1 &&& (1 : Int32))), .val (.int (0 : Int32)), .val (.ref b102), .val (.ref b102), .unset, .unset, .unset, .unset] [(.ref b102)])) (fun t k => ?_) ?_
    · show Steps p.tables e below (T105.setTop (mkF m 22 #[.val (.int p1), .val (.int (p1 &&& (1 : Int32))), .val (.int (0 : Int32)), .unset, .unset, .unset, .unset, .unset, .unset] [(.ref b102)])) _
      refine XS.astoreN X105.here hx rfl (hb hby at_22) rfl rfl (l' := #[.val (.int p1), .val (.int (p1 &&& (1 : Int32))), .val (.int (0 : Int32)), .val (.ref b102), .unset, .unset, .unset, .unset, .unset]) rfl ?_
      show Steps p.tables e below (T105.setTop (mkF m 23 #[.val (.int p1), .val (.int (p1 &&& (1 : Int32))), .val (.int (0 : Int32)), .val (.ref b102), .unset, .unset, .unset, .unset, .unset] [])) _
      refine XS.aloadN X105.here hx rfl (hb hby at_23) rfl rfl ?_
      show Steps p.tables e below (T105.setTop (mkF m 24 #[.val (.int p1), .val (.int (p1 &&& (1 : Int32))), .val (.int (0 : Int32)), .val (.ref b102), .unset, .unset, .unset, .unset, .unset] [(.ref b102)])) _
      refine XS.astore X105.here hx rfl (hb hby at_24) rfl rfl (l' := #[.val (.int p1), .val (.int (p1 &&& (1 : Int32))), .val (.int (0 : Int32)), .val (.ref b102), .val (.ref b102), .unset, .unset, .unset, .unset]) rfl ?_
      show Steps p.tables e below (T105.setTop (mkF m 26 #[.val (.int p1), .val (.int (p1 &&& (1 : Int32))), .val (.int (0 : Int32)), .val (.ref b102), .val (.ref b102), .unset, .unset, .unset, .unset] [])) _
      refine XS.aload X105.here hx rfl (hb hby at_26) rfl rfl ?_
      show Steps p.tables e below (T105.setTop (mkF m 28 #[.val (.int p1), .val (.int (p1 &&& (1 : Int32))), .val (.int (0 : Int32)), .val (.ref b102), .val (.ref b102), .unset, .unset, .unset, .unset] [(.ref b102)])) _
      exact k
    obtain ⟨cq107, kq107, qa107, qb107, qc107⟩ := isOf hZ rfl Ex105
    obtain ⟨_, _, ⟨T107, L107, kk107, nn107⟩, -, X107, ⟨Lc107, hQ107, l107, y107, z107⟩, st107⟩ := X105.interfaceBack hx (xi := (⟨"com/example/chainmesh/chainmesh/QueryResult", "rowCount", "()J"⟩ : MethodName)) (y := (⟨"com/example/chainmesh/chainmesh/QueryResult$Bool", "rowCount", "()J"⟩ : MethodName)) hown (mvT hZ (hw _ (List.mem_of_getElem? (i := 16) rfl))) (mvT hZ (hw _ (List.mem_of_getElem? (i := 17) rfl))) (mvT hZ (hw _ (List.mem_of_getElem? (i := 18) rfl))) (mvT hZ (hw _ (List.mem_of_getElem? (i := 19) rfl))) (mvT hZ (hw _ (List.mem_of_getElem? (i := 20) rfl))) (mvT hZ (hw _ (List.mem_of_getElem? (i := 21) rfl))) (mvT hZ (hw _ (List.mem_of_getElem? (i := 22) rfl))) (mvT hZ (hw _ (List.mem_of_getElem? (i := 23) rfl))) (by decide) (backOf (W := 0) (rm4 l Z a0 hw [] b102 (nar .boolean (0 : Int32)) T105.heap n0 f106 F105_value) hZ (hw _ (List.mem_of_getElem? (i := 24) rfl)) (hw _ (List.mem_of_getElem? (i := 2) rfl)) (by decide) (by decide)) qa107 qb107 qc107 (g := (mkF m 28 #[.val (.int p1), .val (.int (p1 &&& (1 : Int32))), .val (.int (0 : Int32)), .val (.ref b102), .val (.ref b102), .unset, .unset, .unset, .unset] [(.ref b102)])) rfl (by rw [hml]; rfl) (Steps.refl _) (argsL := []) (rest := []) (lenOf pd_2 rfl) rfl (by show 2 * 0 + _ ≤ _; exact Nat.le_of_eq rfl) (hb hby at_28) (fun _ _ => ⟨rfl, rfl, (by decide : 1 + 0 ≤ _), (by decide : 1 + 0 ≤ _)⟩)
    dsimp only [Pt.U, Pt.locs, Pt.cells, Pt.slots] at X107 l107 y107 z107 st107 hQ107
    subst l107 y107 z107
    obtain ⟨rfl, Nq107, eq107⟩ := hQ107
    have N107 := Fr.app N105 Nq107
    refine EndsQ.go (fun t k => st107.trans k) ?_
    show EndsQ _ _ _ _ _ _ _ (T107.setTop (mkF m 33 #[.val (.int p1), .val (.int (p1 &&& (1 : Int32))), .val (.int (0 : Int32)), .val (.ref b102), .val (.ref b102), .unset, .unset, .unset, .unset] [(.long (own_rows (nar .boolean (0 : Int32))))]))
    refine EndsQ.go (b := T107.setTop (mkF m 48 #[.val (.int p1), .val (.int (p1 &&& (1 : Int32))), .val (.int (0 : Int32)), .val (.ref b102), .val (.ref b102), .val (.long (own_rows (nar .boolean (0 : Int32)))), .second, .val (.long ((p1 &&& (1 : Int32)).toInt64)), .second] [(.ref b102)])) (fun t k => ?_) ?_
    · show Steps p.tables e below (T107.setTop (mkF m 33 #[.val (.int p1), .val (.int (p1 &&& (1 : Int32))), .val (.int (0 : Int32)), .val (.ref b102), .val (.ref b102), .unset, .unset, .unset, .unset] [(.long (own_rows (nar .boolean (0 : Int32))))])) _
      refine XS.lstore X107.here hx rfl (hb hby at_33) rfl (l' := #[.val (.int p1), .val (.int (p1 &&& (1 : Int32))), .val (.int (0 : Int32)), .val (.ref b102), .val (.ref b102), .val (.long (own_rows (nar .boolean (0 : Int32)))), .second, .unset, .unset]) rfl ?_
      show Steps p.tables e below (T107.setTop (mkF m 35 #[.val (.int p1), .val (.int (p1 &&& (1 : Int32))), .val (.int (0 : Int32)), .val (.ref b102), .val (.ref b102), .val (.long (own_rows (nar .boolean (0 : Int32)))), .second, .unset, .unset] [])) _
      refine XS.iloadN X107.here hx rfl (hb hby at_35) rfl ?_
      show Steps p.tables e below (T107.setTop (mkF m 36 #[.val (.int p1), .val (.int (p1 &&& (1 : Int32))), .val (.int (0 : Int32)), .val (.ref b102), .val (.ref b102), .val (.long (own_rows (nar .boolean (0 : Int32)))), .second, .unset, .unset] [(.int (p1 &&& (1 : Int32)))])) _
      refine XS.i2l X107.here hx rfl (hb hby at_36) rfl ?_
      show Steps p.tables e below (T107.setTop (mkF m 37 #[.val (.int p1), .val (.int (p1 &&& (1 : Int32))), .val (.int (0 : Int32)), .val (.ref b102), .val (.ref b102), .val (.long (own_rows (nar .boolean (0 : Int32)))), .second, .unset, .unset] [(.long ((p1 &&& (1 : Int32)).toInt64))])) _
      refine XS.lstore X107.here hx rfl (hb hby at_37) rfl (l' := #[.val (.int p1), .val (.int (p1 &&& (1 : Int32))), .val (.int (0 : Int32)), .val (.ref b102), .val (.ref b102), .val (.long (own_rows (nar .boolean (0 : Int32)))), .second, .val (.long ((p1 &&& (1 : Int32)).toInt64)), .second]) rfl ?_
      show Steps p.tables e below (T107.setTop (mkF m 39 #[.val (.int p1), .val (.int (p1 &&& (1 : Int32))), .val (.int (0 : Int32)), .val (.ref b102), .val (.ref b102), .val (.long (own_rows (nar .boolean (0 : Int32)))), .second, .val (.long ((p1 &&& (1 : Int32)).toInt64)), .second] [])) _
      refine XS.lload X107.here hx rfl (hb hby at_39) rfl ?_
      show Steps p.tables e below (T107.setTop (mkF m 41 #[.val (.int p1), .val (.int (p1 &&& (1 : Int32))), .val (.int (0 : Int32)), .val (.ref b102), .val (.ref b102), .val (.long (own_rows (nar .boolean (0 : Int32)))), .second, .val (.long ((p1 &&& (1 : Int32)).toInt64)), .second] [(.long (own_rows (nar .boolean (0 : Int32))))])) _
      refine XS.lload X107.here hx rfl (hb hby at_41) rfl ?_
      show Steps p.tables e below (T107.setTop (mkF m 43 #[.val (.int p1), .val (.int (p1 &&& (1 : Int32))), .val (.int (0 : Int32)), .val (.ref b102), .val (.ref b102), .val (.long (own_rows (nar .boolean (0 : Int32)))), .second, .val (.long ((p1 &&& (1 : Int32)).toInt64)), .second] [(.long ((p1 &&& (1 : Int32)).toInt64)), (.long (own_rows (nar .boolean (0 : Int32))))])) _
      refine XS.lcmp X107.here hx rfl (hb hby at_43) rfl ?_
      show Steps p.tables e below (T107.setTop (mkF m 44 #[.val (.int p1), .val (.int (p1 &&& (1 : Int32))), .val (.int (0 : Int32)), .val (.ref b102), .val (.ref b102), .val (.long (own_rows (nar .boolean (0 : Int32)))), .second, .val (.long ((p1 &&& (1 : Int32)).toInt64)), .second] [(.int (lcmpW (own_rows (nar .boolean (0 : Int32))) ((p1 &&& (1 : Int32)).toInt64)))])) _
      refine XS.ifNo X107.here hx rfl (hb hby at_44) rfl ((if0 _ _).trans (teq ((lw_eq (own_rows (nar .boolean (0 : Int32))) ((p1 &&& (1 : Int32)).toInt64)).mpr (own_z p1 hc5_101))).2) ?_
      show Steps p.tables e below (T107.setTop (mkF m 47 #[.val (.int p1), .val (.int (p1 &&& (1 : Int32))), .val (.int (0 : Int32)), .val (.ref b102), .val (.ref b102), .val (.long (own_rows (nar .boolean (0 : Int32)))), .second, .val (.long ((p1 &&& (1 : Int32)).toInt64)), .second] [])) _
      refine XS.aloadN X107.here hx rfl (hb hby at_47) rfl rfl ?_
      show Steps p.tables e below (T107.setTop (mkF m 48 #[.val (.int p1), .val (.int (p1 &&& (1 : Int32))), .val (.int (0 : Int32)), .val (.ref b102), .val (.ref b102), .val (.long (own_rows (nar .boolean (0 : Int32)))), .second, .val (.long ((p1 &&& (1 : Int32)).toInt64)), .second] [(.ref b102)])) _
      exact k
    obtain ⟨cq108, kq108, qa108, qb108, qc108⟩ := isOf hZ eq107 Ex105
    obtain ⟨_, _, ⟨T108, L108, kk108, nn108⟩, -, X108, ⟨Lc108, hQ108, l108, y108, z108⟩, st108⟩ := X107.virtualBack hx (y := (⟨"com/example/chainmesh/chainmesh/QueryResult$Bool", "value", "()Z"⟩ : MethodName)) (z := (⟨"com/example/chainmesh/chainmesh/QueryResult$Bool", "value", "()Z"⟩ : MethodName)) hown (mvT hZ (hw _ (List.mem_of_getElem? (i := 25) rfl))) (mvT hZ (hw _ (List.mem_of_getElem? (i := 26) rfl))) (notFace_of_selects (args := #[]) (mvT hZ (hw _ (List.mem_of_getElem? (i := 28) rfl)))) (mvT hZ (hw _ (List.mem_of_getElem? (i := 28) rfl))) (mvT hZ (hw _ (List.mem_of_getElem? (i := 27) rfl))) (by decide) (backOf (W := 0) (rm5 l Z a0 hw [] b102 (nar .boolean (0 : Int32)) T105.heap n0 f106 F105_value) hZ (hw _ (List.mem_of_getElem? (i := 29) rfl)) (hw _ (List.mem_of_getElem? (i := 2) rfl)) (by decide) (by decide)) qa108 qc108 (g := (mkF m 48 #[.val (.int p1), .val (.int (p1 &&& (1 : Int32))), .val (.int (0 : Int32)), .val (.ref b102), .val (.ref b102), .val (.long (own_rows (nar .boolean (0 : Int32)))), .second, .val (.long ((p1 &&& (1 : Int32)).toInt64)), .second] [(.ref b102)])) rfl (by rw [hml]; rfl) (Steps.refl _) (argsL := []) (rest := []) (lenOf pd_3 rfl) rfl (by show 2 * 0 + _ ≤ _; exact Nat.le_of_eq rfl) (hb hby at_48) (fun _ _ => ⟨rfl, eq107, (by decide : 1 + 0 ≤ _), (by decide : 1 + 0 ≤ _)⟩)
    dsimp only [Pt.U, Pt.locs, Pt.cells, Pt.slots] at X108 l108 y108 z108 st108 hQ108
    subst l108 y108 z108
    obtain ⟨rfl, Nq108, eq108⟩ := hQ108
    have N108 := Fr.app N107 Nq108
    refine EndsQ.go (fun t k => st108.trans k) ?_
    show EndsQ _ _ _ _ _ _ _ (T108.setTop (mkF m 51 #[.val (.int p1), .val (.int (p1 &&& (1 : Int32))), .val (.int (0 : Int32)), .val (.ref b102), .val (.ref b102), .val (.long (own_rows (nar .boolean (0 : Int32)))), .second, .val (.long ((p1 &&& (1 : Int32)).toInt64)), .second] [(.int (nar .boolean (nar .boolean (0 : Int32))))]))
    refine EndsQ.go (b := T108.setTop (mkF m 60 #[.val (.int p1), .val (.int (p1 &&& (1 : Int32))), .val (.int (0 : Int32)), .val (.ref b102), .val (.ref b102), .val (.long (own_rows (nar .boolean (0 : Int32)))), .second, .val (.long ((p1 &&& (1 : Int32)).toInt64)), .second] [(.int (1 : Int32))])) (fun t k => ?_) ?_
    · show Steps p.tables e below (T108.setTop (mkF m 51 #[.val (.int p1), .val (.int (p1 &&& (1 : Int32))), .val (.int (0 : Int32)), .val (.ref b102), .val (.ref b102), .val (.long (own_rows (nar .boolean (0 : Int32)))), .second, .val (.long ((p1 &&& (1 : Int32)).toInt64)), .second] [(.int (nar .boolean (nar .boolean (0 : Int32))))])) _
      refine XS.iloadN X108.here hx rfl (hb hby at_51) rfl ?_
      show Steps p.tables e below (T108.setTop (mkF m 52 #[.val (.int p1), .val (.int (p1 &&& (1 : Int32))), .val (.int (0 : Int32)), .val (.ref b102), .val (.ref b102), .val (.long (own_rows (nar .boolean (0 : Int32)))), .second, .val (.long ((p1 &&& (1 : Int32)).toInt64)), .second] [(.int (0 : Int32)), (.int (nar .boolean (nar .boolean (0 : Int32))))])) _
      refine XS.icmpNo X108.here hx rfl (hb hby at_52) rfl (teq (by decide)).2 ?_
      show Steps p.tables e below (T108.setTop (mkF m 55 #[.val (.int p1), .val (.int (p1 &&& (1 : Int32))), .val (.int (0 : Int32)), .val (.ref b102), .val (.ref b102), .val (.long (own_rows (nar .boolean (0 : Int32)))), .second, .val (.long ((p1 &&& (1 : Int32)).toInt64)), .second] [])) _
      refine XS.iconst X108.here hx rfl (hb hby at_55) ?_
      show Steps p.tables e below (T108.setTop (mkF m 56 #[.val (.int p1), .val (.int (p1 &&& (1 : Int32))), .val (.int (0 : Int32)), .val (.ref b102), .val (.ref b102), .val (.long (own_rows (nar .boolean (0 : Int32)))), .second, .val (.long ((p1 &&& (1 : Int32)).toInt64)), .second] [(.int (1 : Int32))])) _
      refine XS.goto X108.here hx rfl (pc0 := 56) (pc' := 60) rfl (hb hby at_56) (by decide) (by decide) ?_
      show Steps p.tables e below (T108.setTop (mkF m 60 #[.val (.int p1), .val (.int (p1 &&& (1 : Int32))), .val (.int (0 : Int32)), .val (.ref b102), .val (.ref b102), .val (.long (own_rows (nar .boolean (0 : Int32)))), .second, .val (.long ((p1 &&& (1 : Int32)).toInt64)), .second] [(.int (1 : Int32))])) _
      exact k
    refine EndsQ.retN X108 hx Bd.notSynchronized (t := .boolean) Bd.returns (by simp) (hb hby at_60) (by decide) (by decide) ?_
    show Q0 Z p1 h0 n0 (some (.int (nar .boolean (1 : Int32)))) T108.heap _
    rw [eq108]
    exact ⟨rfl, N108⟩
  · refine EndsQ.go (b := s₁.setTop (mkF m 8 #[.val (.int p1), .val (.int (p1 &&& (1 : Int32))), .unset, .unset, .unset, .unset, .unset, .unset, .unset] [])) (fun t k => ?_) ?_
    · show Steps p.tables e below (s₁.setTop (mkF m 5 #[.val (.int p1), .val (.int (p1 &&& (1 : Int32))), .unset, .unset, .unset, .unset, .unset, .unset, .unset] [(.int (p1 &&& (1 : Int32)))])) _
      refine XS.ifNo X0.here hx rfl (hb hby at_5) rfl ((if0 _ _).trans (feq hc5_101).1) ?_
      show Steps p.tables e below (s₁.setTop (mkF m 8 #[.val (.int p1), .val (.int (p1 &&& (1 : Int32))), .unset, .unset, .unset, .unset, .unset, .unset, .unset] [])) _
      exact k
    refine EndsQ.go (b := s₁.setTop (mkF m 14 #[.val (.int p1), .val (.int (p1 &&& (1 : Int32))), .val (.int (1 : Int32)), .unset, .unset, .unset, .unset, .unset, .unset] [])) (fun t k => ?_) ?_
    · show Steps p.tables e below (s₁.setTop (mkF m 8 #[.val (.int p1), .val (.int (p1 &&& (1 : Int32))), .unset, .unset, .unset, .unset, .unset, .unset, .unset] [])) _
      refine XS.iconst X0.here hx rfl (hb hby at_8) ?_
      show Steps p.tables e below (s₁.setTop (mkF m 9 #[.val (.int p1), .val (.int (p1 &&& (1 : Int32))), .unset, .unset, .unset, .unset, .unset, .unset, .unset] [(.int (1 : Int32))])) _
      refine XS.goto X0.here hx rfl (pc0 := 9) (pc' := 13) rfl (hb hby at_9) (by decide) (by decide) ?_
      show Steps p.tables e below (s₁.setTop (mkF m 13 #[.val (.int p1), .val (.int (p1 &&& (1 : Int32))), .unset, .unset, .unset, .unset, .unset, .unset, .unset] [(.int (1 : Int32))])) _
      refine XS.istoreN X0.here hx rfl (hb hby at_13) rfl (l' := #[.val (.int p1), .val (.int (p1 &&& (1 : Int32))), .val (.int (1 : Int32)), .unset, .unset, .unset, .unset, .unset, .unset]) rfl ?_
      show Steps p.tables e below (s₁.setTop (mkF m 14 #[.val (.int p1), .val (.int (p1 &&& (1 : Int32))), .val (.int (1 : Int32)), .unset, .unset, .unset, .unset, .unset, .unset] [])) _
      exact k
    obtain ⟨T109, h109, X109, e109, E109, A109, D109, -, st109⟩ := newO X0 hx hZ hown (hw _ (List.mem_of_getElem? (i := 0) rfl)) (hw _ (List.mem_of_getElem? (i := 1) rfl)) (hw _ (List.mem_of_getElem? (i := 2) rfl)) e0 (g := (mkF m 14 #[.val (.int p1), .val (.int (p1 &&& (1 : Int32))), .val (.int (1 : Int32)), .unset, .unset, .unset, .unset, .unset, .unset] [])) rfl (hb hby at_14) (by decide) (by decide)
    obtain ⟨b109, g109⟩ : ∃ z, z = h0.size := ⟨_, rfl⟩
    rw [← g109] at A109 D109 st109
    have gn109 : n0 ≤ b109 := Nat.le_trans Z0 (Nat.le_of_eq g109.symm)
    have f110 : n0 ≤ h109.size := Nat.le_trans Z0 E109.1
    have f111 : Fld Z h109 b109 "com/example/chainmesh/chainmesh/QueryResult$Bool" "value" "Z" (.int (0 : Int32)) := D109 (Or.inr (hw _ (List.mem_of_getElem? (i := 15) rfl))) (ty := .boolean) (by decide)
    refine EndsQ.go st109 ?_
    show EndsQ _ _ _ _ _ _ _ (T109.setTop (mkF m 17 #[.val (.int p1), .val (.int (p1 &&& (1 : Int32))), .val (.int (1 : Int32)), .unset, .unset, .unset, .unset, .unset, .unset] [(.ref b109)]))
    refine EndsQ.go (b := T109.setTop (mkF m 19 #[.val (.int p1), .val (.int (p1 &&& (1 : Int32))), .val (.int (1 : Int32)), .unset, .unset, .unset, .unset, .unset, .unset] [(.int (1 : Int32)), (.ref b109), (.ref b109)])) (fun t k => ?_) ?_
    · show Steps p.tables e below (T109.setTop (mkF m 17 #[.val (.int p1), .val (.int (p1 &&& (1 : Int32))), .val (.int (1 : Int32)), .unset, .unset, .unset, .unset, .unset, .unset] [(.ref b109)])) _
      refine XS.dup X109.here hx rfl (hb hby at_17) rfl rfl ?_
      show Steps p.tables e below (T109.setTop (mkF m 18 #[.val (.int p1), .val (.int (p1 &&& (1 : Int32))), .val (.int (1 : Int32)), .unset, .unset, .unset, .unset, .unset, .unset] [(.ref b109), (.ref b109)])) _
      refine XS.iloadN X109.here hx rfl (hb hby at_18) rfl ?_
      show Steps p.tables e below (T109.setTop (mkF m 19 #[.val (.int p1), .val (.int (p1 &&& (1 : Int32))), .val (.int (1 : Int32)), .unset, .unset, .unset, .unset, .unset, .unset] [(.int (1 : Int32)), (.ref b109), (.ref b109)])) _
      exact k
    obtain ⟨_, _, ⟨T112, L112, kk112, nn112⟩, -, X112, ⟨Lc112, hQ112, l112, y112, z112⟩, st112⟩ := X109.specialBack hx (y := (⟨"com/example/chainmesh/chainmesh/QueryResult$Bool", "<init>", "(Z)V"⟩ : MethodName)) rfl hown (mvT hZ (hw _ (List.mem_of_getElem? (i := 3) rfl))) (mvT hZ (hw _ (List.mem_of_getElem? (i := 4) rfl))) (mvT hZ (hw _ (List.mem_of_getElem? (i := 5) rfl))) (by decide) (backOf (W := 1) (rm1 l Z a0 hw [] b109 (1 : Int32) h109 n0 f110 f111 A109 gn109 ) hZ (hw _ (List.mem_of_getElem? (i := 5) rfl)) (hw _ (List.mem_of_getElem? (i := 2) rfl)) (by decide) (by decide)) (g := (mkF m 19 #[.val (.int p1), .val (.int (p1 &&& (1 : Int32))), .val (.int (1 : Int32)), .unset, .unset, .unset, .unset, .unset, .unset] [(.int (1 : Int32)), (.ref b109), (.ref b109)])) rfl (by rw [hml]; rfl) (Steps.refl _) (a := b109) (argsL := [(.int (1 : Int32))]) (rest := [(.ref b109)]) (lenOf pd_1 rfl) rfl (by show 2 * 0 + _ ≤ _; exact Nat.le_of_eq rfl) (hb hby at_19) (fun _ _ => ⟨rfl, e109, (by decide : 1 + 0 ≤ _), (by decide : 1 + 0 ≤ _)⟩)
    dsimp only [Pt.U, Pt.locs, Pt.cells, Pt.slots] at X112 l112 y112 z112 st112 hQ112
    subst l112 y112 z112
    obtain ⟨rfl, Nq112, K112, Ex112, F112_value⟩ := hQ112
    have N112 := Fr.app N0 Nq112
    have f113 : n0 ≤ T112.heap.size := Nat.le_trans f110 K112.1
    refine EndsQ.go (fun t k => st112.trans k) ?_
    show EndsQ _ _ _ _ _ _ _ (T112.setTop (mkF m 22 #[.val (.int p1), .val (.int (p1 &&& (1 : Int32))), .val (.int (1 : Int32)), .unset, .unset, .unset, .unset, .unset, .unset] [(.ref b109)]))
    refine EndsQ.go (b := T112.setTop (mkF m 28 #[.val (.int p1), .val (.int (p1 &&& (1 : Int32))), .val (.int (1 : Int32)), .val (.ref b109), .val (.ref b109), .unset, .unset, .unset, .unset] [(.ref b109)])) (fun t k => ?_) ?_
    · show Steps p.tables e below (T112.setTop (mkF m 22 #[.val (.int p1), .val (.int (p1 &&& (1 : Int32))), .val (.int (1 : Int32)), .unset, .unset, .unset, .unset, .unset, .unset] [(.ref b109)])) _
      refine XS.astoreN X112.here hx rfl (hb hby at_22) rfl rfl (l' := #[.val (.int p1), .val (.int (p1 &&& (1 : Int32))), .val (.int (1 : Int32)), .val (.ref b109), .unset, .unset, .unset, .unset, .unset]) rfl ?_
      show Steps p.tables e below (T112.setTop (mkF m 23 #[.val (.int p1), .val (.int (p1 &&& (1 : Int32))), .val (.int (1 : Int32)), .val (.ref b109), .unset, .unset, .unset, .unset, .unset] [])) _
      refine XS.aloadN X112.here hx rfl (hb hby at_23) rfl rfl ?_
      show Steps p.tables e below (T112.setTop (mkF m 24 #[.val (.int p1), .val (.int (p1 &&& (1 : Int32))), .val (.int (1 : Int32)), .val (.ref b109), .unset, .unset, .unset, .unset, .unset] [(.ref b109)])) _
      refine XS.astore X112.here hx rfl (hb hby at_24) rfl rfl (l' := #[.val (.int p1), .val (.int (p1 &&& (1 : Int32))), .val (.int (1 : Int32)), .val (.ref b109), .val (.ref b109), .unset, .unset, .unset, .unset]) rfl ?_
      show Steps p.tables e below (T112.setTop (mkF m 26 #[.val (.int p1), .val (.int (p1 &&& (1 : Int32))), .val (.int (1 : Int32)), .val (.ref b109), .val (.ref b109), .unset, .unset, .unset, .unset] [])) _
      refine XS.aload X112.here hx rfl (hb hby at_26) rfl rfl ?_
      show Steps p.tables e below (T112.setTop (mkF m 28 #[.val (.int p1), .val (.int (p1 &&& (1 : Int32))), .val (.int (1 : Int32)), .val (.ref b109), .val (.ref b109), .unset, .unset, .unset, .unset] [(.ref b109)])) _
      exact k
    obtain ⟨cq114, kq114, qa114, qb114, qc114⟩ := isOf hZ rfl Ex112
    obtain ⟨_, _, ⟨T114, L114, kk114, nn114⟩, -, X114, ⟨Lc114, hQ114, l114, y114, z114⟩, st114⟩ := X112.interfaceBack hx (xi := (⟨"com/example/chainmesh/chainmesh/QueryResult", "rowCount", "()J"⟩ : MethodName)) (y := (⟨"com/example/chainmesh/chainmesh/QueryResult$Bool", "rowCount", "()J"⟩ : MethodName)) hown (mvT hZ (hw _ (List.mem_of_getElem? (i := 16) rfl))) (mvT hZ (hw _ (List.mem_of_getElem? (i := 17) rfl))) (mvT hZ (hw _ (List.mem_of_getElem? (i := 18) rfl))) (mvT hZ (hw _ (List.mem_of_getElem? (i := 19) rfl))) (mvT hZ (hw _ (List.mem_of_getElem? (i := 20) rfl))) (mvT hZ (hw _ (List.mem_of_getElem? (i := 21) rfl))) (mvT hZ (hw _ (List.mem_of_getElem? (i := 22) rfl))) (mvT hZ (hw _ (List.mem_of_getElem? (i := 23) rfl))) (by decide) (backOf (W := 0) (rm4 l Z a0 hw [] b109 (nar .boolean (1 : Int32)) T112.heap n0 f113 F112_value) hZ (hw _ (List.mem_of_getElem? (i := 24) rfl)) (hw _ (List.mem_of_getElem? (i := 2) rfl)) (by decide) (by decide)) qa114 qb114 qc114 (g := (mkF m 28 #[.val (.int p1), .val (.int (p1 &&& (1 : Int32))), .val (.int (1 : Int32)), .val (.ref b109), .val (.ref b109), .unset, .unset, .unset, .unset] [(.ref b109)])) rfl (by rw [hml]; rfl) (Steps.refl _) (argsL := []) (rest := []) (lenOf pd_2 rfl) rfl (by show 2 * 0 + _ ≤ _; exact Nat.le_of_eq rfl) (hb hby at_28) (fun _ _ => ⟨rfl, rfl, (by decide : 1 + 0 ≤ _), (by decide : 1 + 0 ≤ _)⟩)
    dsimp only [Pt.U, Pt.locs, Pt.cells, Pt.slots] at X114 l114 y114 z114 st114 hQ114
    subst l114 y114 z114
    obtain ⟨rfl, Nq114, eq114⟩ := hQ114
    have N114 := Fr.app N112 Nq114
    refine EndsQ.go (fun t k => st114.trans k) ?_
    show EndsQ _ _ _ _ _ _ _ (T114.setTop (mkF m 33 #[.val (.int p1), .val (.int (p1 &&& (1 : Int32))), .val (.int (1 : Int32)), .val (.ref b109), .val (.ref b109), .unset, .unset, .unset, .unset] [(.long (own_rows (nar .boolean (1 : Int32))))]))
    refine EndsQ.go (b := T114.setTop (mkF m 48 #[.val (.int p1), .val (.int (p1 &&& (1 : Int32))), .val (.int (1 : Int32)), .val (.ref b109), .val (.ref b109), .val (.long (own_rows (nar .boolean (1 : Int32)))), .second, .val (.long ((p1 &&& (1 : Int32)).toInt64)), .second] [(.ref b109)])) (fun t k => ?_) ?_
    · show Steps p.tables e below (T114.setTop (mkF m 33 #[.val (.int p1), .val (.int (p1 &&& (1 : Int32))), .val (.int (1 : Int32)), .val (.ref b109), .val (.ref b109), .unset, .unset, .unset, .unset] [(.long (own_rows (nar .boolean (1 : Int32))))])) _
      refine XS.lstore X114.here hx rfl (hb hby at_33) rfl (l' := #[.val (.int p1), .val (.int (p1 &&& (1 : Int32))), .val (.int (1 : Int32)), .val (.ref b109), .val (.ref b109), .val (.long (own_rows (nar .boolean (1 : Int32)))), .second, .unset, .unset]) rfl ?_
      show Steps p.tables e below (T114.setTop (mkF m 35 #[.val (.int p1), .val (.int (p1 &&& (1 : Int32))), .val (.int (1 : Int32)), .val (.ref b109), .val (.ref b109), .val (.long (own_rows (nar .boolean (1 : Int32)))), .second, .unset, .unset] [])) _
      refine XS.iloadN X114.here hx rfl (hb hby at_35) rfl ?_
      show Steps p.tables e below (T114.setTop (mkF m 36 #[.val (.int p1), .val (.int (p1 &&& (1 : Int32))), .val (.int (1 : Int32)), .val (.ref b109), .val (.ref b109), .val (.long (own_rows (nar .boolean (1 : Int32)))), .second, .unset, .unset] [(.int (p1 &&& (1 : Int32)))])) _
      refine XS.i2l X114.here hx rfl (hb hby at_36) rfl ?_
      show Steps p.tables e below (T114.setTop (mkF m 37 #[.val (.int p1), .val (.int (p1 &&& (1 : Int32))), .val (.int (1 : Int32)), .val (.ref b109), .val (.ref b109), .val (.long (own_rows (nar .boolean (1 : Int32)))), .second, .unset, .unset] [(.long ((p1 &&& (1 : Int32)).toInt64))])) _
      refine XS.lstore X114.here hx rfl (hb hby at_37) rfl (l' := #[.val (.int p1), .val (.int (p1 &&& (1 : Int32))), .val (.int (1 : Int32)), .val (.ref b109), .val (.ref b109), .val (.long (own_rows (nar .boolean (1 : Int32)))), .second, .val (.long ((p1 &&& (1 : Int32)).toInt64)), .second]) rfl ?_
      show Steps p.tables e below (T114.setTop (mkF m 39 #[.val (.int p1), .val (.int (p1 &&& (1 : Int32))), .val (.int (1 : Int32)), .val (.ref b109), .val (.ref b109), .val (.long (own_rows (nar .boolean (1 : Int32)))), .second, .val (.long ((p1 &&& (1 : Int32)).toInt64)), .second] [])) _
      refine XS.lload X114.here hx rfl (hb hby at_39) rfl ?_
      show Steps p.tables e below (T114.setTop (mkF m 41 #[.val (.int p1), .val (.int (p1 &&& (1 : Int32))), .val (.int (1 : Int32)), .val (.ref b109), .val (.ref b109), .val (.long (own_rows (nar .boolean (1 : Int32)))), .second, .val (.long ((p1 &&& (1 : Int32)).toInt64)), .second] [(.long (own_rows (nar .boolean (1 : Int32))))])) _
      refine XS.lload X114.here hx rfl (hb hby at_41) rfl ?_
      show Steps p.tables e below (T114.setTop (mkF m 43 #[.val (.int p1), .val (.int (p1 &&& (1 : Int32))), .val (.int (1 : Int32)), .val (.ref b109), .val (.ref b109), .val (.long (own_rows (nar .boolean (1 : Int32)))), .second, .val (.long ((p1 &&& (1 : Int32)).toInt64)), .second] [(.long ((p1 &&& (1 : Int32)).toInt64)), (.long (own_rows (nar .boolean (1 : Int32))))])) _
      refine XS.lcmp X114.here hx rfl (hb hby at_43) rfl ?_
      show Steps p.tables e below (T114.setTop (mkF m 44 #[.val (.int p1), .val (.int (p1 &&& (1 : Int32))), .val (.int (1 : Int32)), .val (.ref b109), .val (.ref b109), .val (.long (own_rows (nar .boolean (1 : Int32)))), .second, .val (.long ((p1 &&& (1 : Int32)).toInt64)), .second] [(.int (lcmpW (own_rows (nar .boolean (1 : Int32))) ((p1 &&& (1 : Int32)).toInt64)))])) _
      refine XS.ifNo X114.here hx rfl (hb hby at_44) rfl ((if0 _ _).trans (teq ((lw_eq (own_rows (nar .boolean (1 : Int32))) ((p1 &&& (1 : Int32)).toInt64)).mpr (own_o p1 hc5_101))).2) ?_
      show Steps p.tables e below (T114.setTop (mkF m 47 #[.val (.int p1), .val (.int (p1 &&& (1 : Int32))), .val (.int (1 : Int32)), .val (.ref b109), .val (.ref b109), .val (.long (own_rows (nar .boolean (1 : Int32)))), .second, .val (.long ((p1 &&& (1 : Int32)).toInt64)), .second] [])) _
      refine XS.aloadN X114.here hx rfl (hb hby at_47) rfl rfl ?_
      show Steps p.tables e below (T114.setTop (mkF m 48 #[.val (.int p1), .val (.int (p1 &&& (1 : Int32))), .val (.int (1 : Int32)), .val (.ref b109), .val (.ref b109), .val (.long (own_rows (nar .boolean (1 : Int32)))), .second, .val (.long ((p1 &&& (1 : Int32)).toInt64)), .second] [(.ref b109)])) _
      exact k
    obtain ⟨cq115, kq115, qa115, qb115, qc115⟩ := isOf hZ eq114 Ex112
    obtain ⟨_, _, ⟨T115, L115, kk115, nn115⟩, -, X115, ⟨Lc115, hQ115, l115, y115, z115⟩, st115⟩ := X114.virtualBack hx (y := (⟨"com/example/chainmesh/chainmesh/QueryResult$Bool", "value", "()Z"⟩ : MethodName)) (z := (⟨"com/example/chainmesh/chainmesh/QueryResult$Bool", "value", "()Z"⟩ : MethodName)) hown (mvT hZ (hw _ (List.mem_of_getElem? (i := 25) rfl))) (mvT hZ (hw _ (List.mem_of_getElem? (i := 26) rfl))) (notFace_of_selects (args := #[]) (mvT hZ (hw _ (List.mem_of_getElem? (i := 28) rfl)))) (mvT hZ (hw _ (List.mem_of_getElem? (i := 28) rfl))) (mvT hZ (hw _ (List.mem_of_getElem? (i := 27) rfl))) (by decide) (backOf (W := 0) (rm5 l Z a0 hw [] b109 (nar .boolean (1 : Int32)) T112.heap n0 f113 F112_value) hZ (hw _ (List.mem_of_getElem? (i := 29) rfl)) (hw _ (List.mem_of_getElem? (i := 2) rfl)) (by decide) (by decide)) qa115 qc115 (g := (mkF m 48 #[.val (.int p1), .val (.int (p1 &&& (1 : Int32))), .val (.int (1 : Int32)), .val (.ref b109), .val (.ref b109), .val (.long (own_rows (nar .boolean (1 : Int32)))), .second, .val (.long ((p1 &&& (1 : Int32)).toInt64)), .second] [(.ref b109)])) rfl (by rw [hml]; rfl) (Steps.refl _) (argsL := []) (rest := []) (lenOf pd_3 rfl) rfl (by show 2 * 0 + _ ≤ _; exact Nat.le_of_eq rfl) (hb hby at_48) (fun _ _ => ⟨rfl, eq114, (by decide : 1 + 0 ≤ _), (by decide : 1 + 0 ≤ _)⟩)
    dsimp only [Pt.U, Pt.locs, Pt.cells, Pt.slots] at X115 l115 y115 z115 st115 hQ115
    subst l115 y115 z115
    obtain ⟨rfl, Nq115, eq115⟩ := hQ115
    have N115 := Fr.app N114 Nq115
    refine EndsQ.go (fun t k => st115.trans k) ?_
    show EndsQ _ _ _ _ _ _ _ (T115.setTop (mkF m 51 #[.val (.int p1), .val (.int (p1 &&& (1 : Int32))), .val (.int (1 : Int32)), .val (.ref b109), .val (.ref b109), .val (.long (own_rows (nar .boolean (1 : Int32)))), .second, .val (.long ((p1 &&& (1 : Int32)).toInt64)), .second] [(.int (nar .boolean (nar .boolean (1 : Int32))))]))
    refine EndsQ.go (b := T115.setTop (mkF m 60 #[.val (.int p1), .val (.int (p1 &&& (1 : Int32))), .val (.int (1 : Int32)), .val (.ref b109), .val (.ref b109), .val (.long (own_rows (nar .boolean (1 : Int32)))), .second, .val (.long ((p1 &&& (1 : Int32)).toInt64)), .second] [(.int (1 : Int32))])) (fun t k => ?_) ?_
    · show Steps p.tables e below (T115.setTop (mkF m 51 #[.val (.int p1), .val (.int (p1 &&& (1 : Int32))), .val (.int (1 : Int32)), .val (.ref b109), .val (.ref b109), .val (.long (own_rows (nar .boolean (1 : Int32)))), .second, .val (.long ((p1 &&& (1 : Int32)).toInt64)), .second] [(.int (nar .boolean (nar .boolean (1 : Int32))))])) _
      refine XS.iloadN X115.here hx rfl (hb hby at_51) rfl ?_
      show Steps p.tables e below (T115.setTop (mkF m 52 #[.val (.int p1), .val (.int (p1 &&& (1 : Int32))), .val (.int (1 : Int32)), .val (.ref b109), .val (.ref b109), .val (.long (own_rows (nar .boolean (1 : Int32)))), .second, .val (.long ((p1 &&& (1 : Int32)).toInt64)), .second] [(.int (1 : Int32)), (.int (nar .boolean (nar .boolean (1 : Int32))))])) _
      refine XS.icmpNo X115.here hx rfl (hb hby at_52) rfl (teq (by decide)).2 ?_
      show Steps p.tables e below (T115.setTop (mkF m 55 #[.val (.int p1), .val (.int (p1 &&& (1 : Int32))), .val (.int (1 : Int32)), .val (.ref b109), .val (.ref b109), .val (.long (own_rows (nar .boolean (1 : Int32)))), .second, .val (.long ((p1 &&& (1 : Int32)).toInt64)), .second] [])) _
      refine XS.iconst X115.here hx rfl (hb hby at_55) ?_
      show Steps p.tables e below (T115.setTop (mkF m 56 #[.val (.int p1), .val (.int (p1 &&& (1 : Int32))), .val (.int (1 : Int32)), .val (.ref b109), .val (.ref b109), .val (.long (own_rows (nar .boolean (1 : Int32)))), .second, .val (.long ((p1 &&& (1 : Int32)).toInt64)), .second] [(.int (1 : Int32))])) _
      refine XS.goto X115.here hx rfl (pc0 := 56) (pc' := 60) rfl (hb hby at_56) (by decide) (by decide) ?_
      show Steps p.tables e below (T115.setTop (mkF m 60 #[.val (.int p1), .val (.int (p1 &&& (1 : Int32))), .val (.int (1 : Int32)), .val (.ref b109), .val (.ref b109), .val (.long (own_rows (nar .boolean (1 : Int32)))), .second, .val (.long ((p1 &&& (1 : Int32)).toInt64)), .second] [(.int (1 : Int32))])) _
      exact k
    refine EndsQ.retN X115 hx Bd.notSynchronized (t := .boolean) Bd.returns (by simp) (hb hby at_60) (by decide) (by decide) ?_
    show Q0 Z p1 h0 n0 (some (.int (nar .boolean (1 : Int32)))) T115.heap _
    rw [eq115]
    exact ⟨rfl, N115⟩
set_option maxRecDepth 65536 in
set_option maxHeartbeats 40000000 in
theorem comes_1 {Post : Tables → Env → Array Value → State → Outcome → State → Prop} (hpost : ∀ tb e args s v u, (limb_1_1.after args s (.returned v) u = true ∧ limb_1_2.after args s (.returned v) u = true ∧ True) → FrameEnd s (.returned v) u (Jvm.fieldLocs frame_1_writes args s ++ Jvm.arrayLocs frame_1_arrays args s ++ Jvm.staticLocs frame_1_statics s) 16 128 → Post tb e args s (.returned v) u) :
    ArmFor flags0 classFile x code maxLocals ret World_1 tables_1 room_1 Calls_1 rest_1 Pre_1 Post := by
  intro l hfl _ _ p e ha hc hk s m args below hf hA hF happ hP
  obtain ⟨hcalls, hrest, hpre⟩ := hP
  obtain ⟨-, -, -, hnamed, -, -, -, hat⟩ := (Spec.applies_iff hf).mp happ
  obtain ⟨hg, hn⟩ := and_e (Cond.before_iff.mp (show (Jvm.Cond.and given_1 narrow_1).before args s = true from hpre))
  obtain ⟨g1a, g1b⟩ := and_e hg
  obtain ⟨w0, rfl⟩ : ∃ w0 : Value, args = #[w0] := by
    have hs : args.size = 1 := by simpa [Cond.value, given_1] using g1a
    obtain ⟨L⟩ := args
    match L, hs with
    | [w0], _ => exact ⟨w0, rfl⟩
  have hw := fun d (hd : d ∈ tables_1) => atoms_spec (ws := Jvm.Cond.code x code maxLocals ret :: tables_1) hat d (List.mem_cons_of_mem _ hd)
  have hfit : Fit s := fun {y c} hc i hi => by
    obtain ⟨ha, rfl⟩ := Array.getElem?_eq_some_iff.mp hc
    have q := List.all_eq_true.mp ((Array.all_eq_true_iff_forall_mem.mp hF) _ (Array.getElem_mem ha)) i (List.mem_range.mpr hi)
    simpa [Array.getElem?_eq_getElem hi] using q
  obtain ⟨i0, ei0⟩ := is_v g1b
  obtain rfl : w0 = (.int i0) := Option.some.inj ei0
  obtain ⟨n, o, h1, h2, h3, _, L, rfl, ⟨rfl, N⟩, hq⟩ := rm0 l s _ hw tables_1 i0 s.heap s.heap.size (Nat.le_refl _) p e ha hc hk s m _ below hf ((Spec.applies_iff_loose hf).mp happ).1 ⟨rfl, State.Warmed39.refl s, rfl⟩ trivial
  refine ⟨n, _, h1, h2, h3, hpost _ _ _ _ _ _ ⟨Cond.after_iff.mpr rfl, Cond.after_iff.mpr (eq_i res_at (Term.int_eval (1)) rfl), trivial⟩ ⟨hq.1, hq.2.1, (hq.2.2.sift fun y hy => Or.inr (N y hy)).mono (by decide) (by decide)⟩⟩
theorem main_1_1 : Claimed_1_1 := comes_1 fun _ _ _ _ _ _ h hF => ⟨h.1, hF⟩
theorem main_1_2 : Claimed_1_2 := comes_1 fun _ _ _ _ _ _ h hF => ⟨h.2.1, hF⟩
end Jvm.Pilot.@@N@@
namespace Jvm.Pilot.@@N@@
open Jvm Jvm.ClassFile Sem Op Lib Jvm.Free Jvm.Stand Jvm.Pilot.@@N@@.Jvm.D
/-! MADE BY PROGRAM (witnessworld.py) out of the Statement's table words and the real class files: 11 classes; the members and pool entries that the words name. The judged class is class 1, her method 1. -/
namespace start1
open Jvm.ClassFile
def u (s : String) : CpInfo := .utf8 (stringToUtf16 s)
/-- a pool by its gaps: so many unusable entries, then the entry; so many at the end -/
def gap : Nat → List CpInfo → List CpInfo
  | 0, r => r
  | n + 1, r => .unusable :: gap n r
def poolList (es : List (Nat × CpInfo)) (last : Nat) : List CpInfo := es.foldr (fun e r => gap e.1 (e.2 :: r)) (gap last [])
def pool (es : List (Nat × CpInfo)) (last : Nat) : Array CpInfo := ⟨poolList es last⟩
def fileOf (pool : Array CpInfo) (this : Nat) (attrs : Array Attribute := #[]) (ms : Array MethodInfo := #[]) (fl : Nat := 33) (sup : Nat := 0) (ifs : Array Nat := #[]) (fds : Array FieldInfo := #[]) : ClassFile where
  minorVersion := 0
  majorVersion := 65
  constantPool := pool
  accessFlags := fl
  thisClass := this
  superClass := sup
  interfaces := ifs
  fields := fds
  methods := ms
  attributes := attrs
def plain (name : String) (sup : Option ClassId) : Class where
  name := name
  kind := .ordinary
  loader := none
  accessFlags := 33
  super := sup
  interfaces := #[]
  cf := none
  fields := #[]
  methods := #[]
  instanceTypes := #[]
  staticTypes := #[]
  resolved := #[]
  callSites := []
  init := .initialized
  statics := none
  mirror := none

def pool0 : Array CpInfo := pool [(5, u "<init>"), (0, u "()V"), (1, .class_ 10), (1, u "java/lang/Object")] 113

def k0c0 : Code := { maxStack := 0, maxLocals := 1, code := object_method_1_code, exceptionTable := #[], attributes := #[] }
def k0m0 : Method := { name := "<init>", desc := "()V", sig := { parameters := [], returnType := none }, accessFlags := 1, code := some k0c0 }
/-- java/lang/Object -/
def k0 : Class := { plain "java/lang/Object" none with
  accessFlags := 33
  interfaces := #[]
  cf := some (fileOf pool0 8 #[] #[{ accessFlags := 1, nameIndex := 5, descriptorIndex := 6, attributes := #[] }] 33 0 #[] #[])
  fields := #[]
  methods := #[k0m0]
  instanceTypes := #[]
  staticTypes := #[]
  resolved := Array.replicate 124 none
  statics := none }

def pool1 : Array CpInfo := pool [(2, .class_ 4), (1, u "java/lang/Object"), (0, u "<init>"), (0, u "()V"), (0, .class_ 8), (0, u "com/example/chainmesh/chainmesh/QueryResult$Bool"), (0, .methodref 7 10), (0, .nameAndType 5 11), (0, u "(Z)V"), (0, .interfaceMethodref 13 14), (0, .class_ 15), (0, .nameAndType 16 17), (0, u "com/example/chainmesh/chainmesh/QueryResult"), (0, u "rowCount"), (0, u "()J"), (0, .methodref 7 19), (0, .nameAndType 20 21), (0, u "value"), (0, u "()Z"), (0, .class_ 23), (0, u "com/example/chainmesh/chainmesh/BoolRowCountPinLaw"), (2, u "law"), (0, u "(I)Z")] 5

def k1m0 : Method := { name := "<init>", desc := "()V", sig := { parameters := [], returnType := none }, accessFlags := 2, code := none }
def k1c1 : Code := { maxStack := 4, maxLocals := 9, code := code, exceptionTable := #[], attributes := #[] }
def k1m1 : Method := { name := "law", desc := "(I)Z", sig := { parameters := [.int], returnType := some .boolean }, accessFlags := 9, code := some k1c1 }
/-- com/example/chainmesh/chainmesh/BoolRowCountPinLaw -/
def k1 : Class := { plain "com/example/chainmesh/chainmesh/BoolRowCountPinLaw" (some 0) with
  accessFlags := 49
  interfaces := #[]
  cf := some (fileOf pool1 22 #[] #[{ accessFlags := 2, nameIndex := 5, descriptorIndex := 6, attributes := #[] }, { accessFlags := 9, nameIndex := 26, descriptorIndex := 27, attributes := #[] }] 49 2 #[] #[])
  fields := #[]
  methods := #[k1m0, k1m1]
  instanceTypes := #[]
  staticTypes := #[]
  resolved := Array.replicate 33 none
  statics := none }

def pool2 : Array CpInfo := pool [(1, .methodref 2 3), (0, .class_ 4), (0, .nameAndType 5 6), (0, u "java/lang/Object"), (0, u "<init>"), (0, u "()V"), (0, .class_ 8), (0, u "java/lang/Record")] 13

def k2c0 : Code := { maxStack := 1, maxLocals := 1, code := jdk_30_method_1_code, exceptionTable := #[], attributes := #[] }
def k2m0 : Method := { name := "<init>", desc := "()V", sig := { parameters := [], returnType := none }, accessFlags := 4, code := some k2c0 }
/-- java/lang/Record -/
def k2 : Class := { plain "java/lang/Record" (some 0) with
  accessFlags := 1057
  interfaces := #[]
  cf := some (fileOf pool2 7 #[] #[{ accessFlags := 4, nameIndex := 5, descriptorIndex := 6, attributes := #[] }] 1057 2 #[] #[])
  fields := #[]
  methods := #[k2m0]
  instanceTypes := #[]
  staticTypes := #[]
  resolved := Array.replicate 22 none
  statics := none }

def pool3 : Array CpInfo := pool [(1, .class_ 2), (0, u "com/example/chainmesh/chainmesh/QueryResult"), (0, .class_ 4), (0, u "java/lang/Object"), (0, u "rowCount"), (0, u "()J"), (3, .class_ 11), (0, u "com/example/chainmesh/chainmesh/QueryResult$Bool")] 5

def k3m0 : Method := { name := "rowCount", desc := "()J", sig := { parameters := [], returnType := some .long }, accessFlags := 1025, code := none }
/-- com/example/chainmesh/chainmesh/QueryResult -/
def k3 : Class := { plain "com/example/chainmesh/chainmesh/QueryResult" (some 0) with
  accessFlags := 1536
  interfaces := #[]
  cf := some (fileOf pool3 1 #[.nestMembers #[10]] #[{ accessFlags := 1025, nameIndex := 5, descriptorIndex := 6, attributes := #[] }] 1536 3 #[] #[])
  fields := #[]
  methods := #[k3m0]
  instanceTypes := #[]
  staticTypes := #[]
  resolved := Array.replicate 17 none
  statics := none }

def pool4 : Array CpInfo := pool [(1, .methodref 2 3), (0, .class_ 4), (0, .nameAndType 5 6), (0, u "java/lang/Record"), (0, u "<init>"), (0, u "()V"), (0, .fieldref 8 9), (0, .class_ 10), (0, .nameAndType 11 12), (0, u "com/example/chainmesh/chainmesh/QueryResult$Bool"), (0, u "value"), (0, u "Z"), (12, .class_ 26), (0, u "com/example/chainmesh/chainmesh/QueryResult"), (0, u "(Z)V"), (3, u "rowCount"), (0, u "()J"), (4, u "()Z")] 21

def k4c0 : Code := { maxStack := 2, maxLocals := 2, code := prog_38_method_1_code, exceptionTable := #[], attributes := #[] }
def k4m0 : Method := { name := "<init>", desc := "(Z)V", sig := { parameters := [.boolean], returnType := none }, accessFlags := 1, code := some k4c0 }
def k4c1 : Code := { maxStack := 2, maxLocals := 1, code := prog_38_method_2_code, exceptionTable := #[], attributes := #[] }
def k4m1 : Method := { name := "rowCount", desc := "()J", sig := { parameters := [], returnType := some .long }, accessFlags := 1, code := some k4c1 }
def k4c2 : Code := { maxStack := 1, maxLocals := 1, code := prog_38_method_6_code, exceptionTable := #[], attributes := #[] }
def k4m2 : Method := { name := "value", desc := "()Z", sig := { parameters := [], returnType := some .boolean }, accessFlags := 1, code := some k4c2 }
/-- com/example/chainmesh/chainmesh/QueryResult$Bool -/
def k4 : Class := { plain "com/example/chainmesh/chainmesh/QueryResult$Bool" (some 2) with
  accessFlags := 49
  interfaces := #[3]
  cf := some (fileOf pool4 8 #[.nestHost 25] #[{ accessFlags := 1, nameIndex := 5, descriptorIndex := 27, attributes := #[] }, { accessFlags := 1, nameIndex := 31, descriptorIndex := 32, attributes := #[] }, { accessFlags := 1, nameIndex := 11, descriptorIndex := 37, attributes := #[] }] 49 2 #[25] #[{ accessFlags := 18, nameIndex := 11, descriptorIndex := 12, attributes := #[] }])
  fields := #[{ name := "value", type := .boolean, accessFlags := 18, slot := 0, constantValue := 0 }]
  methods := #[k4m0, k4m1, k4m2]
  instanceTypes := #[.boolean]
  staticTypes := #[]
  resolved := Array.replicate 59 none
  statics := none }

def pool5 : Array CpInfo := pool [(1, u "java/lang/Cloneable"), (0, .class_ 1), (0, u "java/lang/Object"), (0, .class_ 3)] 3

/-- java/lang/Cloneable -/
def k5 : Class := { plain "java/lang/Cloneable" (some 0) with
  accessFlags := 1537
  interfaces := #[]
  cf := some (fileOf pool5 2 #[] #[] 1537 4 #[] #[])
  fields := #[]
  methods := #[]
  instanceTypes := #[]
  staticTypes := #[]
  resolved := Array.replicate 8 none
  statics := none }

def pool6 : Array CpInfo := pool [(1, u "java/io/Serializable"), (0, .class_ 1), (0, u "java/lang/Object"), (0, .class_ 3)] 3

/-- java/io/Serializable -/
def k6 : Class := { plain "java/io/Serializable" (some 0) with
  accessFlags := 1537
  interfaces := #[]
  cf := some (fileOf pool6 2 #[] #[] 1537 4 #[] #[])
  fields := #[]
  methods := #[]
  instanceTypes := #[]
  staticTypes := #[]
  resolved := Array.replicate 8 none
  statics := none }

/-- the primitive byte -/
def k7 : Class := { plain "byte" none with kind := .primitive 'B', accessFlags := 0x411 }
/-- [B -/
def k8 : Class := { plain "[B" (some 0) with kind := .array 7 .byte, interfaces := #[5, 6], accessFlags := 1041 }

/-- the primitive int -/
def k9 : Class := { plain "int" none with kind := .primitive 'I', accessFlags := 0x411 }
/-- [I -/
def k10 : Class := { plain "[I" (some 0) with kind := .array 9 .int, interfaces := #[5, 6], accessFlags := 1041 }

def heap : Heap := #[]
def classes : Array Class := #[k0, k1, k2, k3, k4, k5, k6, k7, k8, k9, k10]
def interned : List (Array UInt16 × Addr) := []
def slotsUsed : Nat := 0
def theMethod : MethodId := ⟨1, 1⟩
def args0 : Array Value := #[.int 5]
def aboutOver (below : List Frame) : State where
  vm := { classes := classes, interned := interned.toArray }
  heap := heap
  slotsUsed := slotsUsed
  threads := #[{ frames := .invoking theMethod args0 :: below }]
def below0 : List Frame := [.native { method := ⟨0, 0⟩, args := #[] }]
def about1 : State := aboutOver below0
def p0 : Program := .bare "" "" ""
def e0 : Env := launch0.env 0 0 0
theorem w_frames : about1.frames = Frame.invoking theMethod args0 :: below0 := rfl
set_option maxRecDepth 65536 in
theorem w_args : argsFit about1.vm theMethod args0 = true := by decide +kernel
set_option maxRecDepth 65536 in
theorem w_heap : heapFits about1 = true := by decide +kernel
set_option maxRecDepth 65536 in
theorem w_runnable : about1.curStatus? = some .runnable := by decide +kernel
set_option maxRecDepth 65536 in
theorem w_alone : about1.alone = true := by decide +kernel
set_option maxRecDepth 65536 in
theorem w_named : about1.methodNamed? x = some theMethod := by decide +kernel
set_option maxRecDepth 65536 in
theorem w_hears : about1.hears theMethod below0 = true := by decide +kernel
set_option maxRecDepth 65536 in
theorem w_ripe : about1.ripe theMethod args0 below0 = true := by decide +kernel
theorem w_running : about1.status = .running := rfl
set_option maxRecDepth 65536 in
theorem w_room : about1.hasRoom e0.platform room_1 = true :=
  launch0.hasRoom_least _ room_1 (by decide +kernel) (by decide +kernel) (by decide +kernel) (by decide +kernel) (by decide +kernel) (by decide +kernel)
theorem allAtoms_all (ts : List Jvm.Cond) (a : Array Jvm.Value) (st : Jvm.State) : (allAtoms ts).before a st = ts.all (fun c => c.before a st) := by
  induction ts with
  | nil => rfl
  | cons c t ih =>
    show (Jvm.Cond.and c (allAtoms t)).before a st = _
    rw [Jvm.Cond.before_and, ih, List.all_cons]
def words1 : List Jvm.Cond := Jvm.Cond.code x code maxLocals ret :: tables_1
/-- a 'code' word, met by the world's own term for the bytes: nothing is compared byte by byte -/
theorem code_word {y : MethodName} {bytes : ByteArray} {mx : Nat} {rt : Option FieldType} {a : Array Value} {s : State} {m : MethodId} {meth : Method} {c : Code} (h1 : s.methodNamed? y = some m) (h2 : s.vm.method? m = some meth) (h3 : meth.code = some c) (h4 : c.code = bytes)
    (h5 : (c.maxLocals == mx && c.exceptionTable.isEmpty && decide (c.maxStack ≤ mostOperands) && decide (meth.sig.returnType = rt) && !meth.locks && decide (parseMethodDescriptor y.desc = some meth.sig)) = true) : (Jvm.Cond.code y bytes mx rt).before a s = true := by
  simp only [Bool.and_eq_true, beq_iff_eq, Bool.not_eq_true', decide_eq_true_eq] at h5
  obtain ⟨⟨⟨⟨⟨g1, g2⟩, g3⟩, g4⟩, g5⟩, g6⟩ := h5
  simp [Cond.before, Cond.holds, Cond.value, h1, h2, h3, h4, g1, g2, g3, g4, g5, g6]
def isCode : Jvm.Cond → Bool
  | .code _ _ _ _ => true
  | _ => false
theorem all_split {L : List Jvm.Cond} {P : Jvm.Cond → Bool} (h1 : L.all (fun c => isCode c || P c) = true) (h2 : ∀ c ∈ L.filter isCode, P c = true) : L.all P = true := by
  refine List.all_eq_true.mpr fun c hc => ?_
  have h := List.all_eq_true.mp h1 c hc
  rcases Bool.eq_false_or_eq_true (isCode c) with hi | hi
  · exact h2 c (List.mem_filter.mpr ⟨hc, hi⟩)
  · simpa [hi] using h
set_option maxRecDepth 65536 in
theorem w_c0 : (Jvm.Cond.code x code maxLocals ret).before args0 about1 = true := code_word (m := ⟨1, 1⟩) (meth := k1m1) (c := k1c1) (by decide +kernel) rfl rfl rfl (by decide +kernel)
set_option maxRecDepth 65536 in
theorem w_c1 : (Jvm.Cond.code ({ cls := "com/example/chainmesh/chainmesh/QueryResult$Bool", name := "<init>", desc := "(Z)V" } : Jvm.MethodName) prog_38_method_1_code (2 : Nat) (Option.none : Option Jvm.ClassFile.FieldType)).before args0 about1 = true := code_word (m := ⟨4, 0⟩) (meth := k4m0) (c := k4c0) (by decide +kernel) rfl rfl rfl (by decide +kernel)
set_option maxRecDepth 65536 in
theorem w_c2 : (Jvm.Cond.code ({ cls := "java/lang/Record", name := "<init>", desc := "()V" } : Jvm.MethodName) jdk_30_method_1_code (1 : Nat) (Option.none : Option Jvm.ClassFile.FieldType)).before args0 about1 = true := code_word (m := ⟨2, 0⟩) (meth := k2m0) (c := k2c0) (by decide +kernel) rfl rfl rfl (by decide +kernel)
set_option maxRecDepth 65536 in
theorem w_c3 : (Jvm.Cond.code ({ cls := "java/lang/Object", name := "<init>", desc := "()V" } : Jvm.MethodName) object_method_1_code (1 : Nat) (Option.none : Option Jvm.ClassFile.FieldType)).before args0 about1 = true := code_word (m := ⟨0, 0⟩) (meth := k0m0) (c := k0c0) (by decide +kernel) rfl rfl rfl (by decide +kernel)
set_option maxRecDepth 65536 in
theorem w_c4 : (Jvm.Cond.code ({ cls := "com/example/chainmesh/chainmesh/QueryResult$Bool", name := "rowCount", desc := "()J" } : Jvm.MethodName) prog_38_method_2_code (1 : Nat) (Option.some Jvm.ClassFile.FieldType.long)).before args0 about1 = true := code_word (m := ⟨4, 1⟩) (meth := k4m1) (c := k4c1) (by decide +kernel) rfl rfl rfl (by decide +kernel)
set_option maxRecDepth 65536 in
theorem w_c5 : (Jvm.Cond.code ({ cls := "com/example/chainmesh/chainmesh/QueryResult$Bool", name := "value", desc := "()Z" } : Jvm.MethodName) prog_38_method_6_code (1 : Nat) (Option.some Jvm.ClassFile.FieldType.boolean)).before args0 about1 = true := code_word (m := ⟨4, 2⟩) (meth := k4m2) (c := k4c2) (by decide +kernel) rfl rfl rfl (by decide +kernel)
def codes1 : List Jvm.Cond := [Jvm.Cond.code x code maxLocals ret, Jvm.Cond.code ({ cls := "com/example/chainmesh/chainmesh/QueryResult$Bool", name := "<init>", desc := "(Z)V" } : Jvm.MethodName) prog_38_method_1_code (2 : Nat) (Option.none : Option Jvm.ClassFile.FieldType), Jvm.Cond.code ({ cls := "java/lang/Record", name := "<init>", desc := "()V" } : Jvm.MethodName) jdk_30_method_1_code (1 : Nat) (Option.none : Option Jvm.ClassFile.FieldType), Jvm.Cond.code ({ cls := "java/lang/Object", name := "<init>", desc := "()V" } : Jvm.MethodName) object_method_1_code (1 : Nat) (Option.none : Option Jvm.ClassFile.FieldType), Jvm.Cond.code ({ cls := "com/example/chainmesh/chainmesh/QueryResult$Bool", name := "rowCount", desc := "()J" } : Jvm.MethodName) prog_38_method_2_code (1 : Nat) (Option.some Jvm.ClassFile.FieldType.long), Jvm.Cond.code ({ cls := "com/example/chainmesh/chainmesh/QueryResult$Bool", name := "value", desc := "()Z" } : Jvm.MethodName) prog_38_method_6_code (1 : Nat) (Option.some Jvm.ClassFile.FieldType.boolean)]
set_option maxRecDepth 65536 in
theorem codes_eq : words1.filter isCode = codes1 := rfl
theorem w_codes : ∀ c ∈ words1.filter isCode, c.before args0 about1 = true := by
  rw [codes_eq]
  intro c hc
  simp only [codes1, List.mem_cons, List.not_mem_nil, or_false] at hc
  rcases hc with rfl | rfl | rfl | rfl | rfl | rfl
  · exact w_c0
  · exact w_c1
  · exact w_c2
  · exact w_c3
  · exact w_c4
  · exact w_c5
set_option maxRecDepth 65536 in
theorem w_t1 : (words1.take 24).all (fun c => isCode c || c.before args0 about1) = true := by decide +kernel
set_option maxRecDepth 65536 in
theorem w_t2 : (words1.drop 24).all (fun c => isCode c || c.before args0 about1) = true := by decide +kernel
theorem w_tables : (allAtoms (Jvm.Cond.code x code maxLocals ret :: tables_1)).before args0 about1 = true := by
  rw [allAtoms_all]
  show words1.all (fun c => c.before args0 about1) = true
  refine all_split ?_ w_codes
  rw [← List.take_append_drop 24 words1, List.all_append, w_t1, w_t2]
  rfl
set_option maxRecDepth 65536 in
theorem w_case : (Jvm.Cond.and given_1 narrow_1).before args0 about1 = true := by decide +kernel
theorem w_applies : (headSpec (Jvm.Cond.code x code maxLocals ret :: tables_1) room_1).applies x e0.platform about1 = true :=
  (Spec.applies_iff w_frames).mpr ⟨w_running, w_runnable, w_alone, w_named, w_hears, w_ripe, w_room, w_tables⟩
theorem atStart : AtStart classFile x code maxLocals ret World_1 tables_1 room_1 Calls_1 rest_1 Pre_1 launch0 p0 e0 about1 theMethod args0 below0 :=
  ⟨lists_1, trivial, launch0.admits_env _ _ _, launch0.least_env, fairChoices_fair.cas, fairChoices_fair.clock, w_frames, w_args, w_heap, w_applies, trivial, trivial, w_case⟩
end start1
theorem witness_1 : WitnessClaimed_1 := ⟨start1.p0, start1.e0, start1.about1, start1.theMethod, start1.args0, start1.below0, start1.atStart⟩
end Jvm.Pilot.@@N@@
