import JvmDerived
import JvmDerived.Pilot.@@N@@Statement
import JvmDerived.Pilot.@@N@@Code
set_option linter.unusedVariables false
set_option linter.unusedSimpArgs false
namespace Jvm.RoadKit
open Sem ClassFile Op Lib Jvm.Stand Jvm.Free Jvm.LawKit
section OwnKit
variable {p : Program} {l : Launch} {e : Env} {R : Room} {s : State} {m : MethodId} {args : Array Value} {below : List Frame} {meth : Method} {c : Code} {T : State} {locs : List Loc} {cells slots : Nat}
def EndsQ (tb : Tables) (e : Env) (below : List Frame) (s : State) (Qv : Option Value → Heap → List Loc → Prop) (rc rs : Nat) (st : State) : Prop :=
  ∃ s₂ o, Steps tb e below st s₂ ∧ s₂.status = .running ∧ Ended s₂ below o ∧ ∃ v L, o = .returned v ∧ Qv v s₂.heap L ∧ FrameEnd s o s₂ L rc rs
theorem EndsQ.go {tb : Tables} {Qv : Option Value → Heap → List Loc → Prop} {rc rs : Nat} {a b : State} (k : ∀ t, Steps tb e below b t → Steps tb e below a t) (h : EndsQ tb e below s Qv rc rs b) : EndsQ tb e below s Qv rc rs a := by
  obtain ⟨s₂, o, h1, h2⟩ := h
  exact ⟨s₂, o, k _ h1, h2⟩
theorem EndsQ.out (X : Stand p l e R s m args below meth c T locs cells slots) (hlk : meth.locks = false) {Qv : Option Value → Heap → List Loc → Prop} {rc rs : Nat} {v : Option Value} {st : State} (hv : meth.sig.returnType = none → v = none)
    (hs : ∀ fs, (∀ (f : JFrame) (acts : List Action), f.method = m → f.locked = none → f.entered = [] → (doReturn e (T.setTop f) acts v).1 = T.setFrames fs) → Steps p.tables e below st (T.setFrames fs))
    (h1 : cells ≤ rc) (h2 : slots ≤ rs) (hq : Qv v T.heap locs) : EndsQ p.tables e below s Qv rc rs st := by
  obtain ⟨fs, hr, hrun, hended, hW, hsame⟩ := X.leave (v := v) hv hlk
  exact ⟨_, _, hs fs hr, hrun, hended, _, _, rfl, hq, ⟨_, rfl⟩, hW, hsame.mono h1 h2⟩
theorem EndsQ.retI (X : Stand p l e R s m args below meth c T locs cells slots) (hx : p.tables.exec = Jvm.exec) (hlk : meth.locks = false) {Qv : Option Value → Heap → List Loc → Prop} {rc rs pc : Nat} {Ls : Array Slot} {z : Int32} {rest : List Value} (hret : meth.sig.returnType = some .int) (hd : decode c.code pc = .ok (.ireturn, 1))
    (h1 : cells ≤ rc) (h2 : slots ≤ rs) (hq : Qv (some (.int z)) T.heap locs) : EndsQ p.tables e below s Qv rc rs (T.setTop (mkF m pc Ls (.int z :: rest))) := by
  refine EndsQ.out X hlk (v := some (.int z)) (fun h => by rw [hret] at h; cases h) (fun fs hr => ?_) h1 h2 hq
  exact retOut X hx hret rfl (Or.inl ⟨rfl, Or.inl rfl, z, rfl⟩) hd hr
theorem EndsQ.retJ (X : Stand p l e R s m args below meth c T locs cells slots) (hx : p.tables.exec = Jvm.exec) (hlk : meth.locks = false) {Qv : Option Value → Heap → List Loc → Prop} {rc rs pc : Nat} {Ls : Array Slot} {z : Int64} {rest : List Value} (hret : meth.sig.returnType = some .long) (hd : decode c.code pc = .ok (.lreturn, 1))
    (h1 : cells ≤ rc) (h2 : slots ≤ rs) (hq : Qv (some (.long z)) T.heap locs) : EndsQ p.tables e below s Qv rc rs (T.setTop (mkF m pc Ls (.long z :: rest))) := by
  refine EndsQ.out X hlk (v := some (.long z)) (fun h => by rw [hret] at h; cases h) (fun fs hr => ?_) h1 h2 hq
  exact retOut X hx hret rfl (Or.inr (Or.inl ⟨rfl, rfl, z, rfl⟩)) hd hr
theorem EndsQ.retA (X : Stand p l e R s m args below meth c T locs cells slots) (hx : p.tables.exec = Jvm.exec) (hlk : meth.locks = false) {Qv : Option Value → Heap → List Loc → Prop} {rc rs pc : Nat} {Ls : Array Slot} {w : Value} {t : FieldType} {rest : List Value} (hret : meth.sig.returnType = some t) (ht : t.isReference = true) (hw : w.isRef = true) (hn : narrow t w = w) (hd : decode c.code pc = .ok (.areturn, 1))
    (h1 : cells ≤ rc) (h2 : slots ≤ rs) (hq : Qv (some w) T.heap locs) : EndsQ p.tables e below s Qv rc rs (T.setTop (mkF m pc Ls (w :: rest))) := by
  refine EndsQ.out X hlk (v := some w) (fun h => by rw [hret] at h; cases h) (fun fs hr => ?_) h1 h2 hq
  exact retOut X hx hret hn (Or.inr (Or.inr (Or.inr (Or.inr ⟨rfl, ht, hw⟩)))) hd hr
theorem EndsQ.retN (X : Stand p l e R s m args below meth c T locs cells slots) (hx : p.tables.exec = Jvm.exec) (hlk : meth.locks = false) {Qv : Option Value → Heap → List Loc → Prop} {rc rs pc : Nat} {Ls : Array Slot} {z : Int32} {t : FieldType} {rest : List Value} (hret : meth.sig.returnType = some t) (ht : t = .boolean ∨ t = .byte ∨ t = .char ∨ t = .short) (hd : decode c.code pc = .ok (.ireturn, 1))
    (h1 : cells ≤ rc) (h2 : slots ≤ rs) (hq : Qv (some (.int (nar t z))) T.heap locs) : EndsQ p.tables e below s Qv rc rs (T.setTop (mkF m pc Ls (.int z :: rest))) := by
  refine EndsQ.out X hlk (v := some (.int (nar t z))) (fun h => by rw [hret] at h; cases h) (fun fs hr => ?_) h1 h2 hq
  exact Jvm.RoadKit.retN X hx hret ht hd hr
theorem EndsQ.retV (X : Stand p l e R s m args below meth c T locs cells slots) (hx : p.tables.exec = Jvm.exec) (hlk : meth.locks = false) {Qv : Option Value → Heap → List Loc → Prop} {rc rs pc : Nat} {Ls : Array Slot} (hret : meth.sig.returnType = none) (hd : decode c.code pc = .ok (.return_, 1))
    (h1 : cells ≤ rc) (h2 : slots ≤ rs) (hq : Qv none T.heap locs) : EndsQ p.tables e below s Qv rc rs (T.setTop (mkF m pc Ls [])) := by
  refine EndsQ.out X hlk (v := none) (fun _ => rfl) (fun fs hr => ?_) h1 h2 hq
  exact X.returnOut hx hret hd hr
end OwnKit
end Jvm.RoadKit
namespace Jvm.Pilot.@@N@@
open Jvm Jvm.ClassFile Sem Op Lib Jvm.Free Jvm.Stand Jvm.LawKit Jvm.RoadKit Bundle Jvm.Pilot.@@N@@.Jvm.D

theorem own_eqI {args : Array Value} {first s : State} {o : Option Outcome} {idx : List Nat} {t : Term} {k : Int32} (h : (Cond.eq t (.int k)).value args first o s idx = some true) : t.eval args first o idx s = some (.int k) := by
  simp only [Cond.value, Term.eval] at h; cases ht : t.eval args first o idx s with | none => simp [ht] at h | some x => cases x <;> simp [ht] at h ⊢; exact h
theorem own_arr {args : Array Value} {s : State} {t : Term} {ty : FieldType} {a : Addr} {z : Int32} (h : (Cond.arrayOf t ty).value args s none s [] = some true) (ev : t.eval args s none [] s = some (.ref a)) (hl : (Cond.eq (.length t) (.int z)).value args s none s [] = some true) :
    ∃ cl, Arr s s.heap a cl ty ∧ cl.slots.size < 2 ^ 31 ∧ cl.slots.size.toInt32 = z := by
  obtain ⟨cl, A⟩ := Jvm.RoadKit.Arr.start ev h
  obtain ⟨b, cell, e1, e2, e3, e4⟩ := Jvm.Lib.length_spec (own_eqI hl)
  cases ev.symm.trans e1
  cases A.1.symm.trans (Jvm.Lib.arrayAt_spec e2).1
  exact ⟨cl, A, e3, (Value.int.inj e4).symm⟩
theorem own_eqR {args : Array Value} {first s : State} {o : Option Outcome} {idx : List Nat} {t u : Term} {a : Addr} (h : (Cond.eq t u).value args first o s idx = some true) (hu : u.eval args first o idx s = some (.ref a)) : t.eval args first o idx s = some (.ref a) := by
  simp only [Cond.value, hu] at h; cases ht : t.eval args first o idx s with | none => simp [ht] at h | some x => cases x <;> simp [ht] at h ⊢; exact h

def own_conf (a b x : Addr) : Int32 := if a = x then 1 else if b = x then 1 else 0
theorem d1_0 : decode prog_2_method_4_code 0 = .ok (.aload_n 0, 1) := by decide +kernel
theorem d1_1 : decode prog_2_method_4_code 1 = .ok (.getstatic 3, 3) := by decide +kernel
theorem d1_4 : decode prog_2_method_4_code 4 = .ok (.if_acmp .eq 10, 3) := by decide +kernel
theorem d1_7 : decode prog_2_method_4_code 7 = .ok (.aload_n 1, 1) := by decide +kernel
theorem d1_8 : decode prog_2_method_4_code 8 = .ok (.getstatic 3, 3) := by decide +kernel
theorem d1_11 : decode prog_2_method_4_code 11 = .ok (.if_acmp .ne 7, 3) := by decide +kernel
theorem d1_14 : decode prog_2_method_4_code 14 = .ok (.iconst 1, 1) := by decide +kernel
theorem d1_15 : decode prog_2_method_4_code 15 = .ok (.goto 4, 3) := by decide +kernel
theorem d1_18 : decode prog_2_method_4_code 18 = .ok (.iconst 0, 1) := by decide +kernel
theorem d1_19 : decode prog_2_method_4_code 19 = .ok (.ireturn, 1) := by decide +kernel
theorem pn_1 : plainName "com/example/limpet/limpet/FolderMode" = true := by first | (simp [plainName, overriddenIn]; done) | decide +kernel
theorem pn_0 : plainName "com/example/limpet/limpet/FolderModeConflictsWithPinLaw" = true := by first | (simp [plainName, overriddenIn]; done) | decide +kernel
theorem pd_0 : parseMethodDescriptor "(Lcom/example/limpet/limpet/FolderMode;)Z" = some ⟨[(.object "com/example/limpet/limpet/FolderMode")], some .boolean⟩ := by decide +kernel
theorem ef_1 (m : MethodId) (x0 : Addr) (x1 : Addr) : entryFrame m #[(.ref x0), (.ref x1)] 2 = mkF m 0 #[.val (.ref x0), .val (.ref x1)] [] := by first | (simp [entryFrame, mkF, argsToLocals, Value.category]; done) | rfl
def Q1 (Z : State) (a1 : Addr) (a2 : Addr) (aE : Addr) (h0 : Heap) (n0 : Nat) (v : Option Value) (h : Heap) (L : List Loc) : Prop := v = some (.int (own_conf a1 a2 aE)) ∧ Fr n0 L ∧ h = h0
set_option maxRecDepth 65536 in
set_option maxHeartbeats 40000000 in
theorem rm1 (l : Launch) (Z : State) (a0 : Array Value) (hw : ∀ d ∈ tables_1, d.before a0 Z = true) (ws : List Jvm.Cond) (a1 : Addr) (a2 : Addr) (aE : Addr) (h0 : Heap) (n0 : Nat) (Z0 : n0 ≤ h0.size) (S_E : Sta Z h0 "com/example/limpet/limpet/FolderMode" "EXCLUSIVE" "Lcom/example/limpet/limpet/FolderMode;" (.ref aE)) :
    MetFree l (⟨"com/example/limpet/limpet/FolderMode", "conflictsWith", "(Lcom/example/limpet/limpet/FolderMode;)Z"⟩ : MethodName) (head1 (Jvm.Cond.code (⟨"com/example/limpet/limpet/FolderMode", "conflictsWith", "(Lcom/example/limpet/limpet/FolderMode;)Z"⟩ : MethodName) prog_2_method_4_code 2 (some .boolean) :: ws) ({ frames := 0, cells := 0, slots := 0, locals := 0 } : Room)) (fun a U => a = #[(.ref a1), (.ref a2)] ∧ Z.Warmed39 U.vm ∧ U.heap = h0) (fun _ _ _ _ _ => True) (fun _ U o U' => ∃ v L, o = .returned v ∧ Q1 Z a1 a2 aE h0 n0 v U'.heap L ∧ FrameEnd U o U' L ({ frames := 0, cells := 0, slots := 0, locals := 0 } : Room).cells ({ frames := 0, cells := 0, slots := 0, locals := 0 } : Room).slots) := by
  refine MetFree.of_bodySF (plainFor_of_name pn_1) hisR ?_
  intro p e s m args below meth c s₁ Bd hml0 hP hK
  obtain ⟨rfl, hZ, hh⟩ := hP
  have hx := Bd.exec
  have hby := Bd.bytes
  have hml : c.maxLocals = 2 := hml0
  have hown : s.vm.findClass "com/example/limpet/limpet/FolderMode" = some m.cls := findClass_of_methodNamed Bd.named
  have hnm := (name_of_methodNamed Bd.named Bd.method).1
  have X0 : Stand p l e ({ frames := 0, cells := 0, slots := 0, locals := 0 } : Room) s m #[(.ref a1), (.ref a2)] below meth c s₁ [] 0 0 := Stand.of_body Bd
  have e0 : s₁.heap = h0 := by rw [← hh, Bd.state]; rfl
  have N0 := Fr.nil n0
  show EndsQ p.tables e below s (fun v h L => Q1 Z a1 a2 aE h0 n0 v h L) ({ frames := 0, cells := 0, slots := 0, locals := 0 } : Room).cells ({ frames := 0, cells := 0, slots := 0, locals := 0 } : Room).slots _
  refine EndsQ.go (b := s₁.setTop (mkF m 0 #[.val (.ref a1), .val (.ref a2)] [])) (fun t k => castTop (ef_1 m a1 a2) k) ?_
  refine EndsQ.go (b := s₁.setTop (mkF m 1 #[.val (.ref a1), .val (.ref a2)] [(.ref a1)])) (fun t k => ?_) ?_
  · show Steps p.tables e below (s₁.setTop (mkF m 0 #[.val (.ref a1), .val (.ref a2)] [])) _
    refine XS.aloadN X0.here hx rfl (hb hby d1_0) rfl rfl ?_
    show Steps p.tables e below (s₁.setTop (mkF m 1 #[.val (.ref a1), .val (.ref a2)] [(.ref a1)])) _
    exact k
  obtain ⟨T101, X101, e101, st101⟩ := getS X0 hx hZ hown (host := "") (hw _ (List.mem_of_getElem? (i := 10) rfl)) Via.refl e0 S_E (g := (mkF m 1 #[.val (.ref a1), .val (.ref a2)] [(.ref a1)])) rfl (hb hby d1_1)
  refine EndsQ.go st101 ?_
  show EndsQ _ _ _ _ _ _ _ (T101.setTop (mkF m 4 #[.val (.ref a1), .val (.ref a2)] [(.ref aE), (.ref a1)]))
  by_cases hc4_102 : a1 = aE
  · refine EndsQ.go (b := T101.setTop (mkF m 14 #[.val (.ref a1), .val (.ref a2)] [])) (fun t k => ?_) ?_
    · show Steps p.tables e below (T101.setTop (mkF m 4 #[.val (.ref a1), .val (.ref a2)] [(.ref aE), (.ref a1)])) _
      refine acmp X101 hx rfl (x := (.ref a1)) (y := (.ref aE)) rfl rfl (pc0 := 4) (pc' := 14) (same := true) rfl (hb hby d1_4) rfl (by first | (simp; done) | (rw [hc4_102]; simp)) (by decide) (by decide) ?_
      show Steps p.tables e below (T101.setTop (mkF m 14 #[.val (.ref a1), .val (.ref a2)] [])) _
      exact k
    refine EndsQ.go (b := T101.setTop (mkF m 19 #[.val (.ref a1), .val (.ref a2)] [(.int (1 : Int32))])) (fun t k => ?_) ?_
    · show Steps p.tables e below (T101.setTop (mkF m 14 #[.val (.ref a1), .val (.ref a2)] [])) _
      refine XS.iconst X101.here hx rfl (hb hby d1_14) ?_
      show Steps p.tables e below (T101.setTop (mkF m 15 #[.val (.ref a1), .val (.ref a2)] [(.int (1 : Int32))])) _
      refine XS.goto X101.here hx rfl (pc0 := 15) (pc' := 19) rfl (hb hby d1_15) (by decide) (by decide) ?_
      show Steps p.tables e below (T101.setTop (mkF m 19 #[.val (.ref a1), .val (.ref a2)] [(.int (1 : Int32))])) _
      exact k
    refine EndsQ.retN X101 hx Bd.notSynchronized (t := .boolean) Bd.returns (by simp) (hb hby d1_19) (by decide) (by decide) ?_
    show Q1 Z a1 a2 aE h0 n0 (some (.int (nar .boolean (1 : Int32)))) T101.heap _
    rw [e101]
    exact ⟨by unfold own_conf; rw [if_pos hc4_102]; rfl, N0, rfl⟩
  · refine EndsQ.go (b := T101.setTop (mkF m 7 #[.val (.ref a1), .val (.ref a2)] [])) (fun t k => ?_) ?_
    · show Steps p.tables e below (T101.setTop (mkF m 4 #[.val (.ref a1), .val (.ref a2)] [(.ref aE), (.ref a1)])) _
      refine acmp X101 hx rfl (x := (.ref a1)) (y := (.ref aE)) rfl rfl (pc0 := 4) (pc' := 7) (same := false) rfl (hb hby d1_4) rfl (decide_eq_false (fun q => hc4_102 (by injection q))) (by decide) (by decide) ?_
      show Steps p.tables e below (T101.setTop (mkF m 7 #[.val (.ref a1), .val (.ref a2)] [])) _
      exact k
    refine EndsQ.go (b := T101.setTop (mkF m 8 #[.val (.ref a1), .val (.ref a2)] [(.ref a2)])) (fun t k => ?_) ?_
    · show Steps p.tables e below (T101.setTop (mkF m 7 #[.val (.ref a1), .val (.ref a2)] [])) _
      refine XS.aloadN X101.here hx rfl (hb hby d1_7) rfl rfl ?_
      show Steps p.tables e below (T101.setTop (mkF m 8 #[.val (.ref a1), .val (.ref a2)] [(.ref a2)])) _
      exact k
    obtain ⟨T103, X103, e103, st103⟩ := getS X101 hx hZ hown (host := "") (hw _ (List.mem_of_getElem? (i := 10) rfl)) Via.refl e101 S_E (g := (mkF m 8 #[.val (.ref a1), .val (.ref a2)] [(.ref a2)])) rfl (hb hby d1_8)
    refine EndsQ.go st103 ?_
    show EndsQ _ _ _ _ _ _ _ (T103.setTop (mkF m 11 #[.val (.ref a1), .val (.ref a2)] [(.ref aE), (.ref a2)]))
    by_cases hc11_104 : a2 = aE
    · refine EndsQ.go (b := T103.setTop (mkF m 14 #[.val (.ref a1), .val (.ref a2)] [])) (fun t k => ?_) ?_
      · show Steps p.tables e below (T103.setTop (mkF m 11 #[.val (.ref a1), .val (.ref a2)] [(.ref aE), (.ref a2)])) _
        refine acmp X103 hx rfl (x := (.ref a2)) (y := (.ref aE)) rfl rfl (pc0 := 11) (pc' := 14) (same := true) rfl (hb hby d1_11) rfl (by first | (simp; done) | (rw [hc11_104]; simp)) (by decide) (by decide) ?_
        show Steps p.tables e below (T103.setTop (mkF m 14 #[.val (.ref a1), .val (.ref a2)] [])) _
        exact k
      refine EndsQ.go (b := T103.setTop (mkF m 19 #[.val (.ref a1), .val (.ref a2)] [(.int (1 : Int32))])) (fun t k => ?_) ?_
      · show Steps p.tables e below (T103.setTop (mkF m 14 #[.val (.ref a1), .val (.ref a2)] [])) _
        refine XS.iconst X103.here hx rfl (hb hby d1_14) ?_
        show Steps p.tables e below (T103.setTop (mkF m 15 #[.val (.ref a1), .val (.ref a2)] [(.int (1 : Int32))])) _
        refine XS.goto X103.here hx rfl (pc0 := 15) (pc' := 19) rfl (hb hby d1_15) (by decide) (by decide) ?_
        show Steps p.tables e below (T103.setTop (mkF m 19 #[.val (.ref a1), .val (.ref a2)] [(.int (1 : Int32))])) _
        exact k
      refine EndsQ.retN X103 hx Bd.notSynchronized (t := .boolean) Bd.returns (by simp) (hb hby d1_19) (by decide) (by decide) ?_
      show Q1 Z a1 a2 aE h0 n0 (some (.int (nar .boolean (1 : Int32)))) T103.heap _
      rw [e103]
      exact ⟨by unfold own_conf; rw [if_neg hc4_102, if_pos hc11_104]; rfl, N0, rfl⟩
    · refine EndsQ.go (b := T103.setTop (mkF m 18 #[.val (.ref a1), .val (.ref a2)] [])) (fun t k => ?_) ?_
      · show Steps p.tables e below (T103.setTop (mkF m 11 #[.val (.ref a1), .val (.ref a2)] [(.ref aE), (.ref a2)])) _
        refine acmp X103 hx rfl (x := (.ref a2)) (y := (.ref aE)) rfl rfl (pc0 := 11) (pc' := 18) (same := false) rfl (hb hby d1_11) rfl (decide_eq_false (fun q => hc11_104 (by injection q))) (by decide) (by decide) ?_
        show Steps p.tables e below (T103.setTop (mkF m 18 #[.val (.ref a1), .val (.ref a2)] [])) _
        exact k
      refine EndsQ.go (b := T103.setTop (mkF m 19 #[.val (.ref a1), .val (.ref a2)] [(.int (0 : Int32))])) (fun t k => ?_) ?_
      · show Steps p.tables e below (T103.setTop (mkF m 18 #[.val (.ref a1), .val (.ref a2)] [])) _
        refine XS.iconst X103.here hx rfl (hb hby d1_18) ?_
        show Steps p.tables e below (T103.setTop (mkF m 19 #[.val (.ref a1), .val (.ref a2)] [(.int (0 : Int32))])) _
        exact k
      refine EndsQ.retN X103 hx Bd.notSynchronized (t := .boolean) Bd.returns (by simp) (hb hby d1_19) (by decide) (by decide) ?_
      show Q1 Z a1 a2 aE h0 n0 (some (.int (nar .boolean (0 : Int32)))) T103.heap _
      rw [e103]
      exact ⟨by unfold own_conf; rw [if_neg hc4_102, if_neg hc11_104]; rfl, N0, rfl⟩
theorem ef_0 (m : MethodId) (x0 : Int32) (x1 : Int32) : entryFrame m #[(.int x0), (.int x1)] maxLocals = mkF m 0 #[.val (.int x0), .val (.int x1), .unset, .unset, .unset, .unset, .unset, .unset, .unset] [] := by first | (simp [entryFrame, mkF, argsToLocals, Value.category, maxLocals]; done) | rfl
def Q0 (Z : State) (p1 : Int32) (p2 : Int32) (aS : Addr) (aE : Addr) (h0 : Heap) (n0 : Nat) (v : Option Value) (h : Heap) (L : List Loc) : Prop := v = some (.int 1) ∧ Fr n0 L
set_option maxRecDepth 65536 in
set_option maxHeartbeats 40000000 in
theorem rm0 (l : Launch) (Z : State) (a0 : Array Value) (hw : ∀ d ∈ tables_1, d.before a0 Z = true) (ws : List Jvm.Cond) (p1 : Int32) (p2 : Int32) (aS : Addr) (aE : Addr) (h0 : Heap) (n0 : Nat) (Z0 : n0 ≤ h0.size) (S_S : Sta Z h0 "com/example/limpet/limpet/FolderMode" "SHARED" "Lcom/example/limpet/limpet/FolderMode;" (.ref aS)) (S_E : Sta Z h0 "com/example/limpet/limpet/FolderMode" "EXCLUSIVE" "Lcom/example/limpet/limpet/FolderMode;" (.ref aE)) (E_S : Exa Z h0 aS "com/example/limpet/limpet/FolderMode") (E_E : Exa Z h0 aE "com/example/limpet/limpet/FolderMode") (hne : aS ≠ aE) :
    MetFree l x (head1 (Jvm.Cond.code x code maxLocals ret :: ws) room_1) (fun a U => a = #[(.int p1), (.int p2)] ∧ Z.Warmed39 U.vm ∧ U.heap = h0) (fun _ _ _ _ _ => True) (fun _ U o U' => ∃ v L, o = .returned v ∧ Q0 Z p1 p2 aS aE h0 n0 v U'.heap L ∧ FrameEnd U o U' L 0 0) := by
  refine MetFree.of_bodySF (plainFor_of_name pn_0) hisR ?_
  intro p e s m args below meth c s₁ Bd hml0 hP hK
  obtain ⟨rfl, hZ, hh⟩ := hP
  have hx := Bd.exec
  have hby := Bd.bytes
  have hml : c.maxLocals = 9 := hml0
  have hown : s.vm.findClass "com/example/limpet/limpet/FolderModeConflictsWithPinLaw" = some m.cls := findClass_of_methodNamed Bd.named
  have hnm := (name_of_methodNamed Bd.named Bd.method).1
  have X0 : Stand p l e room_1 s m #[(.int p1), (.int p2)] below meth c s₁ [] 0 0 := Stand.of_body Bd
  have e0 : s₁.heap = h0 := by rw [← hh, Bd.state]; rfl
  have N0 := Fr.nil n0
  show EndsQ p.tables e below s (fun v h L => Q0 Z p1 p2 aS aE h0 n0 v h L) 0 0 _
  refine EndsQ.go (b := s₁.setTop (mkF m 0 #[.val (.int p1), .val (.int p2), .unset, .unset, .unset, .unset, .unset, .unset, .unset] [])) (fun t k => castTop (ef_0 m p1 p2) k) ?_
  refine EndsQ.go (b := s₁.setTop (mkF m 3 #[.val (.int p1), .val (.int p2), .unset, .unset, .unset, .unset, .unset, .unset, .unset] [(.int (p1 &&& (1 : Int32)))])) (fun t k => ?_) ?_
  · show Steps p.tables e below (s₁.setTop (mkF m 0 #[.val (.int p1), .val (.int p2), .unset, .unset, .unset, .unset, .unset, .unset, .unset] [])) _
    refine XS.iloadN X0.here hx rfl (hb hby at_0) rfl ?_
    show Steps p.tables e below (s₁.setTop (mkF m 1 #[.val (.int p1), .val (.int p2), .unset, .unset, .unset, .unset, .unset, .unset, .unset] [(.int p1)])) _
    refine XS.iconst X0.here hx rfl (hb hby at_1) ?_
    show Steps p.tables e below (s₁.setTop (mkF m 2 #[.val (.int p1), .val (.int p2), .unset, .unset, .unset, .unset, .unset, .unset, .unset] [(.int (1 : Int32)), (.int p1)])) _
    refine XS.iand X0.here hx rfl (hb hby at_2) rfl ?_
    show Steps p.tables e below (s₁.setTop (mkF m 3 #[.val (.int p1), .val (.int p2), .unset, .unset, .unset, .unset, .unset, .unset, .unset] [(.int (p1 &&& (1 : Int32)))])) _
    exact k
  by_cases hc3_101 : (p1 &&& (1 : Int32)) = (0 : Int32)
  · refine EndsQ.go (b := s₁.setTop (mkF m 10 #[.val (.int p1), .val (.int p2), .unset, .unset, .unset, .unset, .unset, .unset, .unset] [])) (fun t k => ?_) ?_
    · show Steps p.tables e below (s₁.setTop (mkF m 3 #[.val (.int p1), .val (.int p2), .unset, .unset, .unset, .unset, .unset, .unset, .unset] [(.int (p1 &&& (1 : Int32)))])) _
      refine XS.ifYes X0.here hx rfl (pc0 := 3) (pc' := 10) rfl (hb hby at_3) rfl ((if0 _ _).trans (teq hc3_101).1) (by decide) (by decide) ?_
      show Steps p.tables e below (s₁.setTop (mkF m 10 #[.val (.int p1), .val (.int p2), .unset, .unset, .unset, .unset, .unset, .unset, .unset] [])) _
      exact k
    refine EndsQ.go (b := s₁.setTop (mkF m 15 #[.val (.int p1), .val (.int p2), .val (.int (0 : Int32)), .unset, .unset, .unset, .unset, .unset, .unset] [(.int (p2 &&& (1 : Int32)))])) (fun t k => ?_) ?_
    · show Steps p.tables e below (s₁.setTop (mkF m 10 #[.val (.int p1), .val (.int p2), .unset, .unset, .unset, .unset, .unset, .unset, .unset] [])) _
      refine XS.iconst X0.here hx rfl (hb hby at_10) ?_
      show Steps p.tables e below (s₁.setTop (mkF m 11 #[.val (.int p1), .val (.int p2), .unset, .unset, .unset, .unset, .unset, .unset, .unset] [(.int (0 : Int32))])) _
      refine XS.istoreN X0.here hx rfl (hb hby at_11) rfl (l' := #[.val (.int p1), .val (.int p2), .val (.int (0 : Int32)), .unset, .unset, .unset, .unset, .unset, .unset]) rfl ?_
      show Steps p.tables e below (s₁.setTop (mkF m 12 #[.val (.int p1), .val (.int p2), .val (.int (0 : Int32)), .unset, .unset, .unset, .unset, .unset, .unset] [])) _
      refine XS.iloadN X0.here hx rfl (hb hby at_12) rfl ?_
      show Steps p.tables e below (s₁.setTop (mkF m 13 #[.val (.int p1), .val (.int p2), .val (.int (0 : Int32)), .unset, .unset, .unset, .unset, .unset, .unset] [(.int p2)])) _
      refine XS.iconst X0.here hx rfl (hb hby at_13) ?_
      show Steps p.tables e below (s₁.setTop (mkF m 14 #[.val (.int p1), .val (.int p2), .val (.int (0 : Int32)), .unset, .unset, .unset, .unset, .unset, .unset] [(.int (1 : Int32)), (.int p2)])) _
      refine XS.iand X0.here hx rfl (hb hby at_14) rfl ?_
      show Steps p.tables e below (s₁.setTop (mkF m 15 #[.val (.int p1), .val (.int p2), .val (.int (0 : Int32)), .unset, .unset, .unset, .unset, .unset, .unset] [(.int (p2 &&& (1 : Int32)))])) _
      exact k
    by_cases hc15_102 : (p2 &&& (1 : Int32)) = (0 : Int32)
    · refine EndsQ.go (b := s₁.setTop (mkF m 22 #[.val (.int p1), .val (.int p2), .val (.int (0 : Int32)), .unset, .unset, .unset, .unset, .unset, .unset] [])) (fun t k => ?_) ?_
      · show Steps p.tables e below (s₁.setTop (mkF m 15 #[.val (.int p1), .val (.int p2), .val (.int (0 : Int32)), .unset, .unset, .unset, .unset, .unset, .unset] [(.int (p2 &&& (1 : Int32)))])) _
        refine XS.ifYes X0.here hx rfl (pc0 := 15) (pc' := 22) rfl (hb hby at_15) rfl ((if0 _ _).trans (teq hc15_102).1) (by decide) (by decide) ?_
        show Steps p.tables e below (s₁.setTop (mkF m 22 #[.val (.int p1), .val (.int p2), .val (.int (0 : Int32)), .unset, .unset, .unset, .unset, .unset, .unset] [])) _
        exact k
      refine EndsQ.go (b := s₁.setTop (mkF m 34 #[.val (.int p1), .val (.int p2), .val (.int (0 : Int32)), .val (.int (0 : Int32)), .unset, .unset, .unset, .unset, .unset] [])) (fun t k => ?_) ?_
      · show Steps p.tables e below (s₁.setTop (mkF m 22 #[.val (.int p1), .val (.int p2), .val (.int (0 : Int32)), .unset, .unset, .unset, .unset, .unset, .unset] [])) _
        refine XS.iconst X0.here hx rfl (hb hby at_22) ?_
        show Steps p.tables e below (s₁.setTop (mkF m 23 #[.val (.int p1), .val (.int p2), .val (.int (0 : Int32)), .unset, .unset, .unset, .unset, .unset, .unset] [(.int (0 : Int32))])) _
        refine XS.istoreN X0.here hx rfl (hb hby at_23) rfl (l' := #[.val (.int p1), .val (.int p2), .val (.int (0 : Int32)), .val (.int (0 : Int32)), .unset, .unset, .unset, .unset, .unset]) rfl ?_
        show Steps p.tables e below (s₁.setTop (mkF m 24 #[.val (.int p1), .val (.int p2), .val (.int (0 : Int32)), .val (.int (0 : Int32)), .unset, .unset, .unset, .unset, .unset] [])) _
        refine XS.iloadN X0.here hx rfl (hb hby at_24) rfl ?_
        show Steps p.tables e below (s₁.setTop (mkF m 25 #[.val (.int p1), .val (.int p2), .val (.int (0 : Int32)), .val (.int (0 : Int32)), .unset, .unset, .unset, .unset, .unset] [(.int (0 : Int32))])) _
        refine XS.ifYes X0.here hx rfl (pc0 := 25) (pc' := 34) rfl (hb hby at_25) rfl ((if0 _ _).trans (teq (by decide)).1) (by decide) (by decide) ?_
        show Steps p.tables e below (s₁.setTop (mkF m 34 #[.val (.int p1), .val (.int p2), .val (.int (0 : Int32)), .val (.int (0 : Int32)), .unset, .unset, .unset, .unset, .unset] [])) _
        exact k
      obtain ⟨T103, X103, e103, st103⟩ := getS X0 hx hZ hown (host := "") (hw _ (List.mem_of_getElem? (i := 0) rfl)) Via.refl e0 S_E (g := (mkF m 34 #[.val (.int p1), .val (.int p2), .val (.int (0 : Int32)), .val (.int (0 : Int32)), .unset, .unset, .unset, .unset, .unset] [])) rfl (hb hby at_34)
      refine EndsQ.go st103 ?_
      show EndsQ _ _ _ _ _ _ _ (T103.setTop (mkF m 37 #[.val (.int p1), .val (.int p2), .val (.int (0 : Int32)), .val (.int (0 : Int32)), .unset, .unset, .unset, .unset, .unset] [(.ref aE)]))
      refine EndsQ.go (b := T103.setTop (mkF m 49 #[.val (.int p1), .val (.int p2), .val (.int (0 : Int32)), .val (.int (0 : Int32)), .val (.ref aE), .unset, .unset, .unset, .unset] [])) (fun t k => ?_) ?_
      · show Steps p.tables e below (T103.setTop (mkF m 37 #[.val (.int p1), .val (.int p2), .val (.int (0 : Int32)), .val (.int (0 : Int32)), .unset, .unset, .unset, .unset, .unset] [(.ref aE)])) _
        refine XS.astore X103.here hx rfl (hb hby at_37) rfl rfl (l' := #[.val (.int p1), .val (.int p2), .val (.int (0 : Int32)), .val (.int (0 : Int32)), .val (.ref aE), .unset, .unset, .unset, .unset]) rfl ?_
        show Steps p.tables e below (T103.setTop (mkF m 39 #[.val (.int p1), .val (.int p2), .val (.int (0 : Int32)), .val (.int (0 : Int32)), .val (.ref aE), .unset, .unset, .unset, .unset] [])) _
        refine XS.iloadN X103.here hx rfl (hb hby at_39) rfl ?_
        show Steps p.tables e below (T103.setTop (mkF m 40 #[.val (.int p1), .val (.int p2), .val (.int (0 : Int32)), .val (.int (0 : Int32)), .val (.ref aE), .unset, .unset, .unset, .unset] [(.int (0 : Int32))])) _
        refine XS.ifYes X103.here hx rfl (pc0 := 40) (pc' := 49) rfl (hb hby at_40) rfl ((if0 _ _).trans (teq (by decide)).1) (by decide) (by decide) ?_
        show Steps p.tables e below (T103.setTop (mkF m 49 #[.val (.int p1), .val (.int p2), .val (.int (0 : Int32)), .val (.int (0 : Int32)), .val (.ref aE), .unset, .unset, .unset, .unset] [])) _
        exact k
      obtain ⟨T104, X104, e104, st104⟩ := getS X103 hx hZ hown (host := "") (hw _ (List.mem_of_getElem? (i := 0) rfl)) Via.refl e103 S_E (g := (mkF m 49 #[.val (.int p1), .val (.int p2), .val (.int (0 : Int32)), .val (.int (0 : Int32)), .val (.ref aE), .unset, .unset, .unset, .unset] [])) rfl (hb hby at_49)
      refine EndsQ.go st104 ?_
      show EndsQ _ _ _ _ _ _ _ (T104.setTop (mkF m 52 #[.val (.int p1), .val (.int p2), .val (.int (0 : Int32)), .val (.int (0 : Int32)), .val (.ref aE), .unset, .unset, .unset, .unset] [(.ref aE)]))
      refine EndsQ.go (b := T104.setTop (mkF m 81 #[.val (.int p1), .val (.int p2), .val (.int (0 : Int32)), .val (.int (0 : Int32)), .val (.ref aE), .val (.ref aE), .val (.int (1 : Int32)), .unset, .unset] [(.ref aE), (.ref aE)])) (fun t k => ?_) ?_
      · show Steps p.tables e below (T104.setTop (mkF m 52 #[.val (.int p1), .val (.int p2), .val (.int (0 : Int32)), .val (.int (0 : Int32)), .val (.ref aE), .unset, .unset, .unset, .unset] [(.ref aE)])) _
        refine XS.astore X104.here hx rfl (hb hby at_52) rfl rfl (l' := #[.val (.int p1), .val (.int p2), .val (.int (0 : Int32)), .val (.int (0 : Int32)), .val (.ref aE), .val (.ref aE), .unset, .unset, .unset]) rfl ?_
        show Steps p.tables e below (T104.setTop (mkF m 54 #[.val (.int p1), .val (.int p2), .val (.int (0 : Int32)), .val (.int (0 : Int32)), .val (.ref aE), .val (.ref aE), .unset, .unset, .unset] [])) _
        refine XS.iloadN X104.here hx rfl (hb hby at_54) rfl ?_
        show Steps p.tables e below (T104.setTop (mkF m 55 #[.val (.int p1), .val (.int p2), .val (.int (0 : Int32)), .val (.int (0 : Int32)), .val (.ref aE), .val (.ref aE), .unset, .unset, .unset] [(.int (0 : Int32))])) _
        refine XS.ifYes X104.here hx rfl (pc0 := 55) (pc' := 74) rfl (hb hby at_55) rfl ((if0 _ _).trans (teq (by decide)).1) (by decide) (by decide) ?_
        show Steps p.tables e below (T104.setTop (mkF m 74 #[.val (.int p1), .val (.int p2), .val (.int (0 : Int32)), .val (.int (0 : Int32)), .val (.ref aE), .val (.ref aE), .unset, .unset, .unset] [])) _
        refine XS.iconst X104.here hx rfl (hb hby at_74) ?_
        show Steps p.tables e below (T104.setTop (mkF m 75 #[.val (.int p1), .val (.int p2), .val (.int (0 : Int32)), .val (.int (0 : Int32)), .val (.ref aE), .val (.ref aE), .unset, .unset, .unset] [(.int (1 : Int32))])) _
        refine XS.istore X104.here hx rfl (hb hby at_75) rfl (l' := #[.val (.int p1), .val (.int p2), .val (.int (0 : Int32)), .val (.int (0 : Int32)), .val (.ref aE), .val (.ref aE), .val (.int (1 : Int32)), .unset, .unset]) rfl ?_
        show Steps p.tables e below (T104.setTop (mkF m 77 #[.val (.int p1), .val (.int p2), .val (.int (0 : Int32)), .val (.int (0 : Int32)), .val (.ref aE), .val (.ref aE), .val (.int (1 : Int32)), .unset, .unset] [])) _
        refine XS.aload X104.here hx rfl (hb hby at_77) rfl rfl ?_
        show Steps p.tables e below (T104.setTop (mkF m 79 #[.val (.int p1), .val (.int p2), .val (.int (0 : Int32)), .val (.int (0 : Int32)), .val (.ref aE), .val (.ref aE), .val (.int (1 : Int32)), .unset, .unset] [(.ref aE)])) _
        refine XS.aload X104.here hx rfl (hb hby at_79) rfl rfl ?_
        show Steps p.tables e below (T104.setTop (mkF m 81 #[.val (.int p1), .val (.int p2), .val (.int (0 : Int32)), .val (.int (0 : Int32)), .val (.ref aE), .val (.ref aE), .val (.int (1 : Int32)), .unset, .unset] [(.ref aE), (.ref aE)])) _
        exact k
      obtain ⟨cq105, kq105, qa105, qb105, qc105⟩ := isOf hZ e104 E_E
      obtain ⟨_, _, ⟨T105, L105, kk105, nn105⟩, -, X105, ⟨Lc105, hQ105, l105, y105, z105⟩, st105⟩ := X104.virtualBack hx (y := (⟨"com/example/limpet/limpet/FolderMode", "conflictsWith", "(Lcom/example/limpet/limpet/FolderMode;)Z"⟩ : MethodName)) (z := (⟨"com/example/limpet/limpet/FolderMode", "conflictsWith", "(Lcom/example/limpet/limpet/FolderMode;)Z"⟩ : MethodName)) hown (mvT hZ (hw _ (List.mem_of_getElem? (i := 5) rfl))) (mvT hZ (hw _ (List.mem_of_getElem? (i := 6) rfl))) (notFace_of_selects (args := #[]) (mvT hZ (hw _ (List.mem_of_getElem? (i := 8) rfl)))) (mvT hZ (hw _ (List.mem_of_getElem? (i := 8) rfl))) (mvT hZ (hw _ (List.mem_of_getElem? (i := 7) rfl))) (by decide) (backOf (W := 0) (rm1 l Z a0 hw [] aE aE aE h0 n0 Z0 S_E) hZ (hw _ (List.mem_of_getElem? (i := 9) rfl)) (hw _ (List.mem_of_getElem? (i := 1) rfl)) (by decide) (by decide)) qa105 qc105 (g := (mkF m 81 #[.val (.int p1), .val (.int p2), .val (.int (0 : Int32)), .val (.int (0 : Int32)), .val (.ref aE), .val (.ref aE), .val (.int (1 : Int32)), .unset, .unset] [(.ref aE), (.ref aE)])) rfl (by rw [hml]; rfl) (Steps.refl _) (argsL := [(.ref aE)]) (rest := []) (lenOf pd_0 rfl) rfl (by show 2 * 0 + _ ≤ _; exact Nat.le_of_eq rfl) (hb hby at_81) (fun _ _ => ⟨rfl, e104, (by decide : 0 + 0 ≤ _), (by decide : 0 + 0 ≤ _)⟩)
      dsimp only [Pt.U, Pt.locs, Pt.cells, Pt.slots] at X105 l105 y105 z105 st105 hQ105
      subst l105 y105 z105
      obtain ⟨rfl, Nq105, eq105⟩ := hQ105
      have N105 := Fr.app N0 Nq105
      refine EndsQ.go (fun t k => st105.trans k) ?_
      show EndsQ _ _ _ _ _ _ _ (T105.setTop (mkF m 84 #[.val (.int p1), .val (.int p2), .val (.int (0 : Int32)), .val (.int (0 : Int32)), .val (.ref aE), .val (.ref aE), .val (.int (1 : Int32)), .unset, .unset] [(.int (own_conf aE aE aE))]))
      refine EndsQ.go (b := T105.setTop (mkF m 90 #[.val (.int p1), .val (.int p2), .val (.int (0 : Int32)), .val (.int (0 : Int32)), .val (.ref aE), .val (.ref aE), .val (.int (1 : Int32)), .val (.int (own_conf aE aE aE)), .unset] [(.ref aE), (.ref aE)])) (fun t k => ?_) ?_
      · show Steps p.tables e below (T105.setTop (mkF m 84 #[.val (.int p1), .val (.int p2), .val (.int (0 : Int32)), .val (.int (0 : Int32)), .val (.ref aE), .val (.ref aE), .val (.int (1 : Int32)), .unset, .unset] [(.int (own_conf aE aE aE))])) _
        refine XS.istore X105.here hx rfl (hb hby at_84) rfl (l' := #[.val (.int p1), .val (.int p2), .val (.int (0 : Int32)), .val (.int (0 : Int32)), .val (.ref aE), .val (.ref aE), .val (.int (1 : Int32)), .val (.int (own_conf aE aE aE)), .unset]) rfl ?_
        show Steps p.tables e below (T105.setTop (mkF m 86 #[.val (.int p1), .val (.int p2), .val (.int (0 : Int32)), .val (.int (0 : Int32)), .val (.ref aE), .val (.ref aE), .val (.int (1 : Int32)), .val (.int (own_conf aE aE aE)), .unset] [])) _
        refine XS.aload X105.here hx rfl (hb hby at_86) rfl rfl ?_
        show Steps p.tables e below (T105.setTop (mkF m 88 #[.val (.int p1), .val (.int p2), .val (.int (0 : Int32)), .val (.int (0 : Int32)), .val (.ref aE), .val (.ref aE), .val (.int (1 : Int32)), .val (.int (own_conf aE aE aE)), .unset] [(.ref aE)])) _
        refine XS.aload X105.here hx rfl (hb hby at_88) rfl rfl ?_
        show Steps p.tables e below (T105.setTop (mkF m 90 #[.val (.int p1), .val (.int p2), .val (.int (0 : Int32)), .val (.int (0 : Int32)), .val (.ref aE), .val (.ref aE), .val (.int (1 : Int32)), .val (.int (own_conf aE aE aE)), .unset] [(.ref aE), (.ref aE)])) _
        exact k
      obtain ⟨cq106, kq106, qa106, qb106, qc106⟩ := isOf hZ eq105 E_E
      obtain ⟨_, _, ⟨T106, L106, kk106, nn106⟩, -, X106, ⟨Lc106, hQ106, l106, y106, z106⟩, st106⟩ := X105.virtualBack hx (y := (⟨"com/example/limpet/limpet/FolderMode", "conflictsWith", "(Lcom/example/limpet/limpet/FolderMode;)Z"⟩ : MethodName)) (z := (⟨"com/example/limpet/limpet/FolderMode", "conflictsWith", "(Lcom/example/limpet/limpet/FolderMode;)Z"⟩ : MethodName)) hown (mvT hZ (hw _ (List.mem_of_getElem? (i := 5) rfl))) (mvT hZ (hw _ (List.mem_of_getElem? (i := 6) rfl))) (notFace_of_selects (args := #[]) (mvT hZ (hw _ (List.mem_of_getElem? (i := 8) rfl)))) (mvT hZ (hw _ (List.mem_of_getElem? (i := 8) rfl))) (mvT hZ (hw _ (List.mem_of_getElem? (i := 7) rfl))) (by decide) (backOf (W := 0) (rm1 l Z a0 hw [] aE aE aE h0 n0 Z0 S_E) hZ (hw _ (List.mem_of_getElem? (i := 9) rfl)) (hw _ (List.mem_of_getElem? (i := 1) rfl)) (by decide) (by decide)) qa106 qc106 (g := (mkF m 90 #[.val (.int p1), .val (.int p2), .val (.int (0 : Int32)), .val (.int (0 : Int32)), .val (.ref aE), .val (.ref aE), .val (.int (1 : Int32)), .val (.int (own_conf aE aE aE)), .unset] [(.ref aE), (.ref aE)])) rfl (by rw [hml]; rfl) (Steps.refl _) (argsL := [(.ref aE)]) (rest := []) (lenOf pd_0 rfl) rfl (by show 2 * 0 + _ ≤ _; exact Nat.le_of_eq rfl) (hb hby at_90) (fun _ _ => ⟨rfl, eq105, (by decide : 0 + 0 ≤ _), (by decide : 0 + 0 ≤ _)⟩)
      dsimp only [Pt.U, Pt.locs, Pt.cells, Pt.slots] at X106 l106 y106 z106 st106 hQ106
      subst l106 y106 z106
      obtain ⟨rfl, Nq106, eq106⟩ := hQ106
      have N106 := Fr.app N105 Nq106
      refine EndsQ.go (fun t k => st106.trans k) ?_
      show EndsQ _ _ _ _ _ _ _ (T106.setTop (mkF m 93 #[.val (.int p1), .val (.int p2), .val (.int (0 : Int32)), .val (.int (0 : Int32)), .val (.ref aE), .val (.ref aE), .val (.int (1 : Int32)), .val (.int (own_conf aE aE aE)), .unset] [(.int (own_conf aE aE aE))]))
      refine EndsQ.go (b := T106.setTop (mkF m 114 #[.val (.int p1), .val (.int p2), .val (.int (0 : Int32)), .val (.int (0 : Int32)), .val (.ref aE), .val (.ref aE), .val (.int (1 : Int32)), .val (.int (own_conf aE aE aE)), .val (.int (own_conf aE aE aE))] [(.int (1 : Int32))])) (fun t k => ?_) ?_
      · show Steps p.tables e below (T106.setTop (mkF m 93 #[.val (.int p1), .val (.int p2), .val (.int (0 : Int32)), .val (.int (0 : Int32)), .val (.ref aE), .val (.ref aE), .val (.int (1 : Int32)), .val (.int (own_conf aE aE aE)), .unset] [(.int (own_conf aE aE aE))])) _
        refine XS.istore X106.here hx rfl (hb hby at_93) rfl (l' := #[.val (.int p1), .val (.int p2), .val (.int (0 : Int32)), .val (.int (0 : Int32)), .val (.ref aE), .val (.ref aE), .val (.int (1 : Int32)), .val (.int (own_conf aE aE aE)), .val (.int (own_conf aE aE aE))]) rfl ?_
        show Steps p.tables e below (T106.setTop (mkF m 95 #[.val (.int p1), .val (.int p2), .val (.int (0 : Int32)), .val (.int (0 : Int32)), .val (.ref aE), .val (.ref aE), .val (.int (1 : Int32)), .val (.int (own_conf aE aE aE)), .val (.int (own_conf aE aE aE))] [])) _
        refine XS.iload X106.here hx rfl (hb hby at_95) rfl ?_
        show Steps p.tables e below (T106.setTop (mkF m 97 #[.val (.int p1), .val (.int p2), .val (.int (0 : Int32)), .val (.int (0 : Int32)), .val (.ref aE), .val (.ref aE), .val (.int (1 : Int32)), .val (.int (own_conf aE aE aE)), .val (.int (own_conf aE aE aE))] [(.int (own_conf aE aE aE))])) _
        refine XS.iload X106.here hx rfl (hb hby at_97) rfl ?_
        show Steps p.tables e below (T106.setTop (mkF m 99 #[.val (.int p1), .val (.int p2), .val (.int (0 : Int32)), .val (.int (0 : Int32)), .val (.ref aE), .val (.ref aE), .val (.int (1 : Int32)), .val (.int (own_conf aE aE aE)), .val (.int (own_conf aE aE aE))] [(.int (1 : Int32)), (.int (own_conf aE aE aE))])) _
        refine XS.icmpNo X106.here hx rfl (hb hby at_99) rfl (teq (by simp [own_conf, hne])).2 ?_
        show Steps p.tables e below (T106.setTop (mkF m 102 #[.val (.int p1), .val (.int p2), .val (.int (0 : Int32)), .val (.int (0 : Int32)), .val (.ref aE), .val (.ref aE), .val (.int (1 : Int32)), .val (.int (own_conf aE aE aE)), .val (.int (own_conf aE aE aE))] [])) _
        refine XS.iload X106.here hx rfl (hb hby at_102) rfl ?_
        show Steps p.tables e below (T106.setTop (mkF m 104 #[.val (.int p1), .val (.int p2), .val (.int (0 : Int32)), .val (.int (0 : Int32)), .val (.ref aE), .val (.ref aE), .val (.int (1 : Int32)), .val (.int (own_conf aE aE aE)), .val (.int (own_conf aE aE aE))] [(.int (own_conf aE aE aE))])) _
        refine XS.iload X106.here hx rfl (hb hby at_104) rfl ?_
        show Steps p.tables e below (T106.setTop (mkF m 106 #[.val (.int p1), .val (.int p2), .val (.int (0 : Int32)), .val (.int (0 : Int32)), .val (.ref aE), .val (.ref aE), .val (.int (1 : Int32)), .val (.int (own_conf aE aE aE)), .val (.int (own_conf aE aE aE))] [(.int (1 : Int32)), (.int (own_conf aE aE aE))])) _
        refine XS.icmpNo X106.here hx rfl (hb hby at_106) rfl (teq (by simp [own_conf, hne])).2 ?_
        show Steps p.tables e below (T106.setTop (mkF m 109 #[.val (.int p1), .val (.int p2), .val (.int (0 : Int32)), .val (.int (0 : Int32)), .val (.ref aE), .val (.ref aE), .val (.int (1 : Int32)), .val (.int (own_conf aE aE aE)), .val (.int (own_conf aE aE aE))] [])) _
        refine XS.iconst X106.here hx rfl (hb hby at_109) ?_
        show Steps p.tables e below (T106.setTop (mkF m 110 #[.val (.int p1), .val (.int p2), .val (.int (0 : Int32)), .val (.int (0 : Int32)), .val (.ref aE), .val (.ref aE), .val (.int (1 : Int32)), .val (.int (own_conf aE aE aE)), .val (.int (own_conf aE aE aE))] [(.int (1 : Int32))])) _
        refine XS.goto X106.here hx rfl (pc0 := 110) (pc' := 114) rfl (hb hby at_110) (by decide) (by decide) ?_
        show Steps p.tables e below (T106.setTop (mkF m 114 #[.val (.int p1), .val (.int p2), .val (.int (0 : Int32)), .val (.int (0 : Int32)), .val (.ref aE), .val (.ref aE), .val (.int (1 : Int32)), .val (.int (own_conf aE aE aE)), .val (.int (own_conf aE aE aE))] [(.int (1 : Int32))])) _
        exact k
      refine EndsQ.retN X106 hx Bd.notSynchronized (t := .boolean) Bd.returns (by simp) (hb hby at_114) (by decide) (by decide) ?_
      show Q0 Z p1 p2 aS aE h0 n0 (some (.int (nar .boolean (1 : Int32)))) T106.heap _
      rw [eq106]
      exact ⟨rfl, N106⟩
    · refine EndsQ.go (b := s₁.setTop (mkF m 18 #[.val (.int p1), .val (.int p2), .val (.int (0 : Int32)), .unset, .unset, .unset, .unset, .unset, .unset] [])) (fun t k => ?_) ?_
      · show Steps p.tables e below (s₁.setTop (mkF m 15 #[.val (.int p1), .val (.int p2), .val (.int (0 : Int32)), .unset, .unset, .unset, .unset, .unset, .unset] [(.int (p2 &&& (1 : Int32)))])) _
        refine XS.ifNo X0.here hx rfl (hb hby at_15) rfl ((if0 _ _).trans (feq hc15_102).1) ?_
        show Steps p.tables e below (s₁.setTop (mkF m 18 #[.val (.int p1), .val (.int p2), .val (.int (0 : Int32)), .unset, .unset, .unset, .unset, .unset, .unset] [])) _
        exact k
      refine EndsQ.go (b := s₁.setTop (mkF m 34 #[.val (.int p1), .val (.int p2), .val (.int (0 : Int32)), .val (.int (1 : Int32)), .unset, .unset, .unset, .unset, .unset] [])) (fun t k => ?_) ?_
      · show Steps p.tables e below (s₁.setTop (mkF m 18 #[.val (.int p1), .val (.int p2), .val (.int (0 : Int32)), .unset, .unset, .unset, .unset, .unset, .unset] [])) _
        refine XS.iconst X0.here hx rfl (hb hby at_18) ?_
        show Steps p.tables e below (s₁.setTop (mkF m 19 #[.val (.int p1), .val (.int p2), .val (.int (0 : Int32)), .unset, .unset, .unset, .unset, .unset, .unset] [(.int (1 : Int32))])) _
        refine XS.goto X0.here hx rfl (pc0 := 19) (pc' := 23) rfl (hb hby at_19) (by decide) (by decide) ?_
        show Steps p.tables e below (s₁.setTop (mkF m 23 #[.val (.int p1), .val (.int p2), .val (.int (0 : Int32)), .unset, .unset, .unset, .unset, .unset, .unset] [(.int (1 : Int32))])) _
        refine XS.istoreN X0.here hx rfl (hb hby at_23) rfl (l' := #[.val (.int p1), .val (.int p2), .val (.int (0 : Int32)), .val (.int (1 : Int32)), .unset, .unset, .unset, .unset, .unset]) rfl ?_
        show Steps p.tables e below (s₁.setTop (mkF m 24 #[.val (.int p1), .val (.int p2), .val (.int (0 : Int32)), .val (.int (1 : Int32)), .unset, .unset, .unset, .unset, .unset] [])) _
        refine XS.iloadN X0.here hx rfl (hb hby at_24) rfl ?_
        show Steps p.tables e below (s₁.setTop (mkF m 25 #[.val (.int p1), .val (.int p2), .val (.int (0 : Int32)), .val (.int (1 : Int32)), .unset, .unset, .unset, .unset, .unset] [(.int (0 : Int32))])) _
        refine XS.ifYes X0.here hx rfl (pc0 := 25) (pc' := 34) rfl (hb hby at_25) rfl ((if0 _ _).trans (teq (by decide)).1) (by decide) (by decide) ?_
        show Steps p.tables e below (s₁.setTop (mkF m 34 #[.val (.int p1), .val (.int p2), .val (.int (0 : Int32)), .val (.int (1 : Int32)), .unset, .unset, .unset, .unset, .unset] [])) _
        exact k
      obtain ⟨T107, X107, e107, st107⟩ := getS X0 hx hZ hown (host := "") (hw _ (List.mem_of_getElem? (i := 0) rfl)) Via.refl e0 S_E (g := (mkF m 34 #[.val (.int p1), .val (.int p2), .val (.int (0 : Int32)), .val (.int (1 : Int32)), .unset, .unset, .unset, .unset, .unset] [])) rfl (hb hby at_34)
      refine EndsQ.go st107 ?_
      show EndsQ _ _ _ _ _ _ _ (T107.setTop (mkF m 37 #[.val (.int p1), .val (.int p2), .val (.int (0 : Int32)), .val (.int (1 : Int32)), .unset, .unset, .unset, .unset, .unset] [(.ref aE)]))
      refine EndsQ.go (b := T107.setTop (mkF m 43 #[.val (.int p1), .val (.int p2), .val (.int (0 : Int32)), .val (.int (1 : Int32)), .val (.ref aE), .unset, .unset, .unset, .unset] [])) (fun t k => ?_) ?_
      · show Steps p.tables e below (T107.setTop (mkF m 37 #[.val (.int p1), .val (.int p2), .val (.int (0 : Int32)), .val (.int (1 : Int32)), .unset, .unset, .unset, .unset, .unset] [(.ref aE)])) _
        refine XS.astore X107.here hx rfl (hb hby at_37) rfl rfl (l' := #[.val (.int p1), .val (.int p2), .val (.int (0 : Int32)), .val (.int (1 : Int32)), .val (.ref aE), .unset, .unset, .unset, .unset]) rfl ?_
        show Steps p.tables e below (T107.setTop (mkF m 39 #[.val (.int p1), .val (.int p2), .val (.int (0 : Int32)), .val (.int (1 : Int32)), .val (.ref aE), .unset, .unset, .unset, .unset] [])) _
        refine XS.iloadN X107.here hx rfl (hb hby at_39) rfl ?_
        show Steps p.tables e below (T107.setTop (mkF m 40 #[.val (.int p1), .val (.int p2), .val (.int (0 : Int32)), .val (.int (1 : Int32)), .val (.ref aE), .unset, .unset, .unset, .unset] [(.int (1 : Int32))])) _
        refine XS.ifNo X107.here hx rfl (hb hby at_40) rfl ((if0 _ _).trans (feq (by decide)).1) ?_
        show Steps p.tables e below (T107.setTop (mkF m 43 #[.val (.int p1), .val (.int p2), .val (.int (0 : Int32)), .val (.int (1 : Int32)), .val (.ref aE), .unset, .unset, .unset, .unset] [])) _
        exact k
      obtain ⟨T108, X108, e108, st108⟩ := getS X107 hx hZ hown (host := "") (hw _ (List.mem_of_getElem? (i := 3) rfl)) Via.refl e107 S_S (g := (mkF m 43 #[.val (.int p1), .val (.int p2), .val (.int (0 : Int32)), .val (.int (1 : Int32)), .val (.ref aE), .unset, .unset, .unset, .unset] [])) rfl (hb hby at_43)
      refine EndsQ.go st108 ?_
      show EndsQ _ _ _ _ _ _ _ (T108.setTop (mkF m 46 #[.val (.int p1), .val (.int p2), .val (.int (0 : Int32)), .val (.int (1 : Int32)), .val (.ref aE), .unset, .unset, .unset, .unset] [(.ref aS)]))
      refine EndsQ.go (b := T108.setTop (mkF m 81 #[.val (.int p1), .val (.int p2), .val (.int (0 : Int32)), .val (.int (1 : Int32)), .val (.ref aE), .val (.ref aS), .val (.int (1 : Int32)), .unset, .unset] [(.ref aS), (.ref aE)])) (fun t k => ?_) ?_
      · show Steps p.tables e below (T108.setTop (mkF m 46 #[.val (.int p1), .val (.int p2), .val (.int (0 : Int32)), .val (.int (1 : Int32)), .val (.ref aE), .unset, .unset, .unset, .unset] [(.ref aS)])) _
        refine XS.goto X108.here hx rfl (pc0 := 46) (pc' := 52) rfl (hb hby at_46) (by decide) (by decide) ?_
        show Steps p.tables e below (T108.setTop (mkF m 52 #[.val (.int p1), .val (.int p2), .val (.int (0 : Int32)), .val (.int (1 : Int32)), .val (.ref aE), .unset, .unset, .unset, .unset] [(.ref aS)])) _
        refine XS.astore X108.here hx rfl (hb hby at_52) rfl rfl (l' := #[.val (.int p1), .val (.int p2), .val (.int (0 : Int32)), .val (.int (1 : Int32)), .val (.ref aE), .val (.ref aS), .unset, .unset, .unset]) rfl ?_
        show Steps p.tables e below (T108.setTop (mkF m 54 #[.val (.int p1), .val (.int p2), .val (.int (0 : Int32)), .val (.int (1 : Int32)), .val (.ref aE), .val (.ref aS), .unset, .unset, .unset] [])) _
        refine XS.iloadN X108.here hx rfl (hb hby at_54) rfl ?_
        show Steps p.tables e below (T108.setTop (mkF m 55 #[.val (.int p1), .val (.int p2), .val (.int (0 : Int32)), .val (.int (1 : Int32)), .val (.ref aE), .val (.ref aS), .unset, .unset, .unset] [(.int (0 : Int32))])) _
        refine XS.ifYes X108.here hx rfl (pc0 := 55) (pc' := 74) rfl (hb hby at_55) rfl ((if0 _ _).trans (teq (by decide)).1) (by decide) (by decide) ?_
        show Steps p.tables e below (T108.setTop (mkF m 74 #[.val (.int p1), .val (.int p2), .val (.int (0 : Int32)), .val (.int (1 : Int32)), .val (.ref aE), .val (.ref aS), .unset, .unset, .unset] [])) _
        refine XS.iconst X108.here hx rfl (hb hby at_74) ?_
        show Steps p.tables e below (T108.setTop (mkF m 75 #[.val (.int p1), .val (.int p2), .val (.int (0 : Int32)), .val (.int (1 : Int32)), .val (.ref aE), .val (.ref aS), .unset, .unset, .unset] [(.int (1 : Int32))])) _
        refine XS.istore X108.here hx rfl (hb hby at_75) rfl (l' := #[.val (.int p1), .val (.int p2), .val (.int (0 : Int32)), .val (.int (1 : Int32)), .val (.ref aE), .val (.ref aS), .val (.int (1 : Int32)), .unset, .unset]) rfl ?_
        show Steps p.tables e below (T108.setTop (mkF m 77 #[.val (.int p1), .val (.int p2), .val (.int (0 : Int32)), .val (.int (1 : Int32)), .val (.ref aE), .val (.ref aS), .val (.int (1 : Int32)), .unset, .unset] [])) _
        refine XS.aload X108.here hx rfl (hb hby at_77) rfl rfl ?_
        show Steps p.tables e below (T108.setTop (mkF m 79 #[.val (.int p1), .val (.int p2), .val (.int (0 : Int32)), .val (.int (1 : Int32)), .val (.ref aE), .val (.ref aS), .val (.int (1 : Int32)), .unset, .unset] [(.ref aE)])) _
        refine XS.aload X108.here hx rfl (hb hby at_79) rfl rfl ?_
        show Steps p.tables e below (T108.setTop (mkF m 81 #[.val (.int p1), .val (.int p2), .val (.int (0 : Int32)), .val (.int (1 : Int32)), .val (.ref aE), .val (.ref aS), .val (.int (1 : Int32)), .unset, .unset] [(.ref aS), (.ref aE)])) _
        exact k
      obtain ⟨cq109, kq109, qa109, qb109, qc109⟩ := isOf hZ e108 E_E
      obtain ⟨_, _, ⟨T109, L109, kk109, nn109⟩, -, X109, ⟨Lc109, hQ109, l109, y109, z109⟩, st109⟩ := X108.virtualBack hx (y := (⟨"com/example/limpet/limpet/FolderMode", "conflictsWith", "(Lcom/example/limpet/limpet/FolderMode;)Z"⟩ : MethodName)) (z := (⟨"com/example/limpet/limpet/FolderMode", "conflictsWith", "(Lcom/example/limpet/limpet/FolderMode;)Z"⟩ : MethodName)) hown (mvT hZ (hw _ (List.mem_of_getElem? (i := 5) rfl))) (mvT hZ (hw _ (List.mem_of_getElem? (i := 6) rfl))) (notFace_of_selects (args := #[]) (mvT hZ (hw _ (List.mem_of_getElem? (i := 8) rfl)))) (mvT hZ (hw _ (List.mem_of_getElem? (i := 8) rfl))) (mvT hZ (hw _ (List.mem_of_getElem? (i := 7) rfl))) (by decide) (backOf (W := 0) (rm1 l Z a0 hw [] aE aS aE h0 n0 Z0 S_E) hZ (hw _ (List.mem_of_getElem? (i := 9) rfl)) (hw _ (List.mem_of_getElem? (i := 1) rfl)) (by decide) (by decide)) qa109 qc109 (g := (mkF m 81 #[.val (.int p1), .val (.int p2), .val (.int (0 : Int32)), .val (.int (1 : Int32)), .val (.ref aE), .val (.ref aS), .val (.int (1 : Int32)), .unset, .unset] [(.ref aS), (.ref aE)])) rfl (by rw [hml]; rfl) (Steps.refl _) (argsL := [(.ref aS)]) (rest := []) (lenOf pd_0 rfl) rfl (by show 2 * 0 + _ ≤ _; exact Nat.le_of_eq rfl) (hb hby at_81) (fun _ _ => ⟨rfl, e108, (by decide : 0 + 0 ≤ _), (by decide : 0 + 0 ≤ _)⟩)
      dsimp only [Pt.U, Pt.locs, Pt.cells, Pt.slots] at X109 l109 y109 z109 st109 hQ109
      subst l109 y109 z109
      obtain ⟨rfl, Nq109, eq109⟩ := hQ109
      have N109 := Fr.app N0 Nq109
      refine EndsQ.go (fun t k => st109.trans k) ?_
      show EndsQ _ _ _ _ _ _ _ (T109.setTop (mkF m 84 #[.val (.int p1), .val (.int p2), .val (.int (0 : Int32)), .val (.int (1 : Int32)), .val (.ref aE), .val (.ref aS), .val (.int (1 : Int32)), .unset, .unset] [(.int (own_conf aE aS aE))]))
      refine EndsQ.go (b := T109.setTop (mkF m 90 #[.val (.int p1), .val (.int p2), .val (.int (0 : Int32)), .val (.int (1 : Int32)), .val (.ref aE), .val (.ref aS), .val (.int (1 : Int32)), .val (.int (own_conf aE aS aE)), .unset] [(.ref aE), (.ref aS)])) (fun t k => ?_) ?_
      · show Steps p.tables e below (T109.setTop (mkF m 84 #[.val (.int p1), .val (.int p2), .val (.int (0 : Int32)), .val (.int (1 : Int32)), .val (.ref aE), .val (.ref aS), .val (.int (1 : Int32)), .unset, .unset] [(.int (own_conf aE aS aE))])) _
        refine XS.istore X109.here hx rfl (hb hby at_84) rfl (l' := #[.val (.int p1), .val (.int p2), .val (.int (0 : Int32)), .val (.int (1 : Int32)), .val (.ref aE), .val (.ref aS), .val (.int (1 : Int32)), .val (.int (own_conf aE aS aE)), .unset]) rfl ?_
        show Steps p.tables e below (T109.setTop (mkF m 86 #[.val (.int p1), .val (.int p2), .val (.int (0 : Int32)), .val (.int (1 : Int32)), .val (.ref aE), .val (.ref aS), .val (.int (1 : Int32)), .val (.int (own_conf aE aS aE)), .unset] [])) _
        refine XS.aload X109.here hx rfl (hb hby at_86) rfl rfl ?_
        show Steps p.tables e below (T109.setTop (mkF m 88 #[.val (.int p1), .val (.int p2), .val (.int (0 : Int32)), .val (.int (1 : Int32)), .val (.ref aE), .val (.ref aS), .val (.int (1 : Int32)), .val (.int (own_conf aE aS aE)), .unset] [(.ref aS)])) _
        refine XS.aload X109.here hx rfl (hb hby at_88) rfl rfl ?_
        show Steps p.tables e below (T109.setTop (mkF m 90 #[.val (.int p1), .val (.int p2), .val (.int (0 : Int32)), .val (.int (1 : Int32)), .val (.ref aE), .val (.ref aS), .val (.int (1 : Int32)), .val (.int (own_conf aE aS aE)), .unset] [(.ref aE), (.ref aS)])) _
        exact k
      obtain ⟨cq110, kq110, qa110, qb110, qc110⟩ := isOf hZ eq109 E_S
      obtain ⟨_, _, ⟨T110, L110, kk110, nn110⟩, -, X110, ⟨Lc110, hQ110, l110, y110, z110⟩, st110⟩ := X109.virtualBack hx (y := (⟨"com/example/limpet/limpet/FolderMode", "conflictsWith", "(Lcom/example/limpet/limpet/FolderMode;)Z"⟩ : MethodName)) (z := (⟨"com/example/limpet/limpet/FolderMode", "conflictsWith", "(Lcom/example/limpet/limpet/FolderMode;)Z"⟩ : MethodName)) hown (mvT hZ (hw _ (List.mem_of_getElem? (i := 5) rfl))) (mvT hZ (hw _ (List.mem_of_getElem? (i := 6) rfl))) (notFace_of_selects (args := #[]) (mvT hZ (hw _ (List.mem_of_getElem? (i := 8) rfl)))) (mvT hZ (hw _ (List.mem_of_getElem? (i := 8) rfl))) (mvT hZ (hw _ (List.mem_of_getElem? (i := 7) rfl))) (by decide) (backOf (W := 0) (rm1 l Z a0 hw [] aS aE aE h0 n0 Z0 S_E) hZ (hw _ (List.mem_of_getElem? (i := 9) rfl)) (hw _ (List.mem_of_getElem? (i := 1) rfl)) (by decide) (by decide)) qa110 qc110 (g := (mkF m 90 #[.val (.int p1), .val (.int p2), .val (.int (0 : Int32)), .val (.int (1 : Int32)), .val (.ref aE), .val (.ref aS), .val (.int (1 : Int32)), .val (.int (own_conf aE aS aE)), .unset] [(.ref aE), (.ref aS)])) rfl (by rw [hml]; rfl) (Steps.refl _) (argsL := [(.ref aE)]) (rest := []) (lenOf pd_0 rfl) rfl (by show 2 * 0 + _ ≤ _; exact Nat.le_of_eq rfl) (hb hby at_90) (fun _ _ => ⟨rfl, eq109, (by decide : 0 + 0 ≤ _), (by decide : 0 + 0 ≤ _)⟩)
      dsimp only [Pt.U, Pt.locs, Pt.cells, Pt.slots] at X110 l110 y110 z110 st110 hQ110
      subst l110 y110 z110
      obtain ⟨rfl, Nq110, eq110⟩ := hQ110
      have N110 := Fr.app N109 Nq110
      refine EndsQ.go (fun t k => st110.trans k) ?_
      show EndsQ _ _ _ _ _ _ _ (T110.setTop (mkF m 93 #[.val (.int p1), .val (.int p2), .val (.int (0 : Int32)), .val (.int (1 : Int32)), .val (.ref aE), .val (.ref aS), .val (.int (1 : Int32)), .val (.int (own_conf aE aS aE)), .unset] [(.int (own_conf aS aE aE))]))
      refine EndsQ.go (b := T110.setTop (mkF m 114 #[.val (.int p1), .val (.int p2), .val (.int (0 : Int32)), .val (.int (1 : Int32)), .val (.ref aE), .val (.ref aS), .val (.int (1 : Int32)), .val (.int (own_conf aE aS aE)), .val (.int (own_conf aS aE aE))] [(.int (1 : Int32))])) (fun t k => ?_) ?_
      · show Steps p.tables e below (T110.setTop (mkF m 93 #[.val (.int p1), .val (.int p2), .val (.int (0 : Int32)), .val (.int (1 : Int32)), .val (.ref aE), .val (.ref aS), .val (.int (1 : Int32)), .val (.int (own_conf aE aS aE)), .unset] [(.int (own_conf aS aE aE))])) _
        refine XS.istore X110.here hx rfl (hb hby at_93) rfl (l' := #[.val (.int p1), .val (.int p2), .val (.int (0 : Int32)), .val (.int (1 : Int32)), .val (.ref aE), .val (.ref aS), .val (.int (1 : Int32)), .val (.int (own_conf aE aS aE)), .val (.int (own_conf aS aE aE))]) rfl ?_
        show Steps p.tables e below (T110.setTop (mkF m 95 #[.val (.int p1), .val (.int p2), .val (.int (0 : Int32)), .val (.int (1 : Int32)), .val (.ref aE), .val (.ref aS), .val (.int (1 : Int32)), .val (.int (own_conf aE aS aE)), .val (.int (own_conf aS aE aE))] [])) _
        refine XS.iload X110.here hx rfl (hb hby at_95) rfl ?_
        show Steps p.tables e below (T110.setTop (mkF m 97 #[.val (.int p1), .val (.int p2), .val (.int (0 : Int32)), .val (.int (1 : Int32)), .val (.ref aE), .val (.ref aS), .val (.int (1 : Int32)), .val (.int (own_conf aE aS aE)), .val (.int (own_conf aS aE aE))] [(.int (own_conf aE aS aE))])) _
        refine XS.iload X110.here hx rfl (hb hby at_97) rfl ?_
        show Steps p.tables e below (T110.setTop (mkF m 99 #[.val (.int p1), .val (.int p2), .val (.int (0 : Int32)), .val (.int (1 : Int32)), .val (.ref aE), .val (.ref aS), .val (.int (1 : Int32)), .val (.int (own_conf aE aS aE)), .val (.int (own_conf aS aE aE))] [(.int (1 : Int32)), (.int (own_conf aE aS aE))])) _
        refine XS.icmpNo X110.here hx rfl (hb hby at_99) rfl (teq (by simp [own_conf, hne])).2 ?_
        show Steps p.tables e below (T110.setTop (mkF m 102 #[.val (.int p1), .val (.int p2), .val (.int (0 : Int32)), .val (.int (1 : Int32)), .val (.ref aE), .val (.ref aS), .val (.int (1 : Int32)), .val (.int (own_conf aE aS aE)), .val (.int (own_conf aS aE aE))] [])) _
        refine XS.iload X110.here hx rfl (hb hby at_102) rfl ?_
        show Steps p.tables e below (T110.setTop (mkF m 104 #[.val (.int p1), .val (.int p2), .val (.int (0 : Int32)), .val (.int (1 : Int32)), .val (.ref aE), .val (.ref aS), .val (.int (1 : Int32)), .val (.int (own_conf aE aS aE)), .val (.int (own_conf aS aE aE))] [(.int (own_conf aS aE aE))])) _
        refine XS.iload X110.here hx rfl (hb hby at_104) rfl ?_
        show Steps p.tables e below (T110.setTop (mkF m 106 #[.val (.int p1), .val (.int p2), .val (.int (0 : Int32)), .val (.int (1 : Int32)), .val (.ref aE), .val (.ref aS), .val (.int (1 : Int32)), .val (.int (own_conf aE aS aE)), .val (.int (own_conf aS aE aE))] [(.int (1 : Int32)), (.int (own_conf aS aE aE))])) _
        refine XS.icmpNo X110.here hx rfl (hb hby at_106) rfl (teq (by simp [own_conf, hne])).2 ?_
        show Steps p.tables e below (T110.setTop (mkF m 109 #[.val (.int p1), .val (.int p2), .val (.int (0 : Int32)), .val (.int (1 : Int32)), .val (.ref aE), .val (.ref aS), .val (.int (1 : Int32)), .val (.int (own_conf aE aS aE)), .val (.int (own_conf aS aE aE))] [])) _
        refine XS.iconst X110.here hx rfl (hb hby at_109) ?_
        show Steps p.tables e below (T110.setTop (mkF m 110 #[.val (.int p1), .val (.int p2), .val (.int (0 : Int32)), .val (.int (1 : Int32)), .val (.ref aE), .val (.ref aS), .val (.int (1 : Int32)), .val (.int (own_conf aE aS aE)), .val (.int (own_conf aS aE aE))] [(.int (1 : Int32))])) _
        refine XS.goto X110.here hx rfl (pc0 := 110) (pc' := 114) rfl (hb hby at_110) (by decide) (by decide) ?_
        show Steps p.tables e below (T110.setTop (mkF m 114 #[.val (.int p1), .val (.int p2), .val (.int (0 : Int32)), .val (.int (1 : Int32)), .val (.ref aE), .val (.ref aS), .val (.int (1 : Int32)), .val (.int (own_conf aE aS aE)), .val (.int (own_conf aS aE aE))] [(.int (1 : Int32))])) _
        exact k
      refine EndsQ.retN X110 hx Bd.notSynchronized (t := .boolean) Bd.returns (by simp) (hb hby at_114) (by decide) (by decide) ?_
      show Q0 Z p1 p2 aS aE h0 n0 (some (.int (nar .boolean (1 : Int32)))) T110.heap _
      rw [eq110]
      exact ⟨rfl, N110⟩
  · refine EndsQ.go (b := s₁.setTop (mkF m 6 #[.val (.int p1), .val (.int p2), .unset, .unset, .unset, .unset, .unset, .unset, .unset] [])) (fun t k => ?_) ?_
    · show Steps p.tables e below (s₁.setTop (mkF m 3 #[.val (.int p1), .val (.int p2), .unset, .unset, .unset, .unset, .unset, .unset, .unset] [(.int (p1 &&& (1 : Int32)))])) _
      refine XS.ifNo X0.here hx rfl (hb hby at_3) rfl ((if0 _ _).trans (feq hc3_101).1) ?_
      show Steps p.tables e below (s₁.setTop (mkF m 6 #[.val (.int p1), .val (.int p2), .unset, .unset, .unset, .unset, .unset, .unset, .unset] [])) _
      exact k
    refine EndsQ.go (b := s₁.setTop (mkF m 15 #[.val (.int p1), .val (.int p2), .val (.int (1 : Int32)), .unset, .unset, .unset, .unset, .unset, .unset] [(.int (p2 &&& (1 : Int32)))])) (fun t k => ?_) ?_
    · show Steps p.tables e below (s₁.setTop (mkF m 6 #[.val (.int p1), .val (.int p2), .unset, .unset, .unset, .unset, .unset, .unset, .unset] [])) _
      refine XS.iconst X0.here hx rfl (hb hby at_6) ?_
      show Steps p.tables e below (s₁.setTop (mkF m 7 #[.val (.int p1), .val (.int p2), .unset, .unset, .unset, .unset, .unset, .unset, .unset] [(.int (1 : Int32))])) _
      refine XS.goto X0.here hx rfl (pc0 := 7) (pc' := 11) rfl (hb hby at_7) (by decide) (by decide) ?_
      show Steps p.tables e below (s₁.setTop (mkF m 11 #[.val (.int p1), .val (.int p2), .unset, .unset, .unset, .unset, .unset, .unset, .unset] [(.int (1 : Int32))])) _
      refine XS.istoreN X0.here hx rfl (hb hby at_11) rfl (l' := #[.val (.int p1), .val (.int p2), .val (.int (1 : Int32)), .unset, .unset, .unset, .unset, .unset, .unset]) rfl ?_
      show Steps p.tables e below (s₁.setTop (mkF m 12 #[.val (.int p1), .val (.int p2), .val (.int (1 : Int32)), .unset, .unset, .unset, .unset, .unset, .unset] [])) _
      refine XS.iloadN X0.here hx rfl (hb hby at_12) rfl ?_
      show Steps p.tables e below (s₁.setTop (mkF m 13 #[.val (.int p1), .val (.int p2), .val (.int (1 : Int32)), .unset, .unset, .unset, .unset, .unset, .unset] [(.int p2)])) _
      refine XS.iconst X0.here hx rfl (hb hby at_13) ?_
      show Steps p.tables e below (s₁.setTop (mkF m 14 #[.val (.int p1), .val (.int p2), .val (.int (1 : Int32)), .unset, .unset, .unset, .unset, .unset, .unset] [(.int (1 : Int32)), (.int p2)])) _
      refine XS.iand X0.here hx rfl (hb hby at_14) rfl ?_
      show Steps p.tables e below (s₁.setTop (mkF m 15 #[.val (.int p1), .val (.int p2), .val (.int (1 : Int32)), .unset, .unset, .unset, .unset, .unset, .unset] [(.int (p2 &&& (1 : Int32)))])) _
      exact k
    by_cases hc15_111 : (p2 &&& (1 : Int32)) = (0 : Int32)
    · refine EndsQ.go (b := s₁.setTop (mkF m 22 #[.val (.int p1), .val (.int p2), .val (.int (1 : Int32)), .unset, .unset, .unset, .unset, .unset, .unset] [])) (fun t k => ?_) ?_
      · show Steps p.tables e below (s₁.setTop (mkF m 15 #[.val (.int p1), .val (.int p2), .val (.int (1 : Int32)), .unset, .unset, .unset, .unset, .unset, .unset] [(.int (p2 &&& (1 : Int32)))])) _
        refine XS.ifYes X0.here hx rfl (pc0 := 15) (pc' := 22) rfl (hb hby at_15) rfl ((if0 _ _).trans (teq hc15_111).1) (by decide) (by decide) ?_
        show Steps p.tables e below (s₁.setTop (mkF m 22 #[.val (.int p1), .val (.int p2), .val (.int (1 : Int32)), .unset, .unset, .unset, .unset, .unset, .unset] [])) _
        exact k
      refine EndsQ.go (b := s₁.setTop (mkF m 28 #[.val (.int p1), .val (.int p2), .val (.int (1 : Int32)), .val (.int (0 : Int32)), .unset, .unset, .unset, .unset, .unset] [])) (fun t k => ?_) ?_
      · show Steps p.tables e below (s₁.setTop (mkF m 22 #[.val (.int p1), .val (.int p2), .val (.int (1 : Int32)), .unset, .unset, .unset, .unset, .unset, .unset] [])) _
        refine XS.iconst X0.here hx rfl (hb hby at_22) ?_
        show Steps p.tables e below (s₁.setTop (mkF m 23 #[.val (.int p1), .val (.int p2), .val (.int (1 : Int32)), .unset, .unset, .unset, .unset, .unset, .unset] [(.int (0 : Int32))])) _
        refine XS.istoreN X0.here hx rfl (hb hby at_23) rfl (l' := #[.val (.int p1), .val (.int p2), .val (.int (1 : Int32)), .val (.int (0 : Int32)), .unset, .unset, .unset, .unset, .unset]) rfl ?_
        show Steps p.tables e below (s₁.setTop (mkF m 24 #[.val (.int p1), .val (.int p2), .val (.int (1 : Int32)), .val (.int (0 : Int32)), .unset, .unset, .unset, .unset, .unset] [])) _
        refine XS.iloadN X0.here hx rfl (hb hby at_24) rfl ?_
        show Steps p.tables e below (s₁.setTop (mkF m 25 #[.val (.int p1), .val (.int p2), .val (.int (1 : Int32)), .val (.int (0 : Int32)), .unset, .unset, .unset, .unset, .unset] [(.int (1 : Int32))])) _
        refine XS.ifNo X0.here hx rfl (hb hby at_25) rfl ((if0 _ _).trans (feq (by decide)).1) ?_
        show Steps p.tables e below (s₁.setTop (mkF m 28 #[.val (.int p1), .val (.int p2), .val (.int (1 : Int32)), .val (.int (0 : Int32)), .unset, .unset, .unset, .unset, .unset] [])) _
        exact k
      obtain ⟨T112, X112, e112, st112⟩ := getS X0 hx hZ hown (host := "") (hw _ (List.mem_of_getElem? (i := 3) rfl)) Via.refl e0 S_S (g := (mkF m 28 #[.val (.int p1), .val (.int p2), .val (.int (1 : Int32)), .val (.int (0 : Int32)), .unset, .unset, .unset, .unset, .unset] [])) rfl (hb hby at_28)
      refine EndsQ.go st112 ?_
      show EndsQ _ _ _ _ _ _ _ (T112.setTop (mkF m 31 #[.val (.int p1), .val (.int p2), .val (.int (1 : Int32)), .val (.int (0 : Int32)), .unset, .unset, .unset, .unset, .unset] [(.ref aS)]))
      refine EndsQ.go (b := T112.setTop (mkF m 49 #[.val (.int p1), .val (.int p2), .val (.int (1 : Int32)), .val (.int (0 : Int32)), .val (.ref aS), .unset, .unset, .unset, .unset] [])) (fun t k => ?_) ?_
      · show Steps p.tables e below (T112.setTop (mkF m 31 #[.val (.int p1), .val (.int p2), .val (.int (1 : Int32)), .val (.int (0 : Int32)), .unset, .unset, .unset, .unset, .unset] [(.ref aS)])) _
        refine XS.goto X112.here hx rfl (pc0 := 31) (pc' := 37) rfl (hb hby at_31) (by decide) (by decide) ?_
        show Steps p.tables e below (T112.setTop (mkF m 37 #[.val (.int p1), .val (.int p2), .val (.int (1 : Int32)), .val (.int (0 : Int32)), .unset, .unset, .unset, .unset, .unset] [(.ref aS)])) _
        refine XS.astore X112.here hx rfl (hb hby at_37) rfl rfl (l' := #[.val (.int p1), .val (.int p2), .val (.int (1 : Int32)), .val (.int (0 : Int32)), .val (.ref aS), .unset, .unset, .unset, .unset]) rfl ?_
        show Steps p.tables e below (T112.setTop (mkF m 39 #[.val (.int p1), .val (.int p2), .val (.int (1 : Int32)), .val (.int (0 : Int32)), .val (.ref aS), .unset, .unset, .unset, .unset] [])) _
        refine XS.iloadN X112.here hx rfl (hb hby at_39) rfl ?_
        show Steps p.tables e below (T112.setTop (mkF m 40 #[.val (.int p1), .val (.int p2), .val (.int (1 : Int32)), .val (.int (0 : Int32)), .val (.ref aS), .unset, .unset, .unset, .unset] [(.int (0 : Int32))])) _
        refine XS.ifYes X112.here hx rfl (pc0 := 40) (pc' := 49) rfl (hb hby at_40) rfl ((if0 _ _).trans (teq (by decide)).1) (by decide) (by decide) ?_
        show Steps p.tables e below (T112.setTop (mkF m 49 #[.val (.int p1), .val (.int p2), .val (.int (1 : Int32)), .val (.int (0 : Int32)), .val (.ref aS), .unset, .unset, .unset, .unset] [])) _
        exact k
      obtain ⟨T113, X113, e113, st113⟩ := getS X112 hx hZ hown (host := "") (hw _ (List.mem_of_getElem? (i := 0) rfl)) Via.refl e112 S_E (g := (mkF m 49 #[.val (.int p1), .val (.int p2), .val (.int (1 : Int32)), .val (.int (0 : Int32)), .val (.ref aS), .unset, .unset, .unset, .unset] [])) rfl (hb hby at_49)
      refine EndsQ.go st113 ?_
      show EndsQ _ _ _ _ _ _ _ (T113.setTop (mkF m 52 #[.val (.int p1), .val (.int p2), .val (.int (1 : Int32)), .val (.int (0 : Int32)), .val (.ref aS), .unset, .unset, .unset, .unset] [(.ref aE)]))
      refine EndsQ.go (b := T113.setTop (mkF m 81 #[.val (.int p1), .val (.int p2), .val (.int (1 : Int32)), .val (.int (0 : Int32)), .val (.ref aS), .val (.ref aE), .val (.int (1 : Int32)), .unset, .unset] [(.ref aE), (.ref aS)])) (fun t k => ?_) ?_
      · show Steps p.tables e below (T113.setTop (mkF m 52 #[.val (.int p1), .val (.int p2), .val (.int (1 : Int32)), .val (.int (0 : Int32)), .val (.ref aS), .unset, .unset, .unset, .unset] [(.ref aE)])) _
        refine XS.astore X113.here hx rfl (hb hby at_52) rfl rfl (l' := #[.val (.int p1), .val (.int p2), .val (.int (1 : Int32)), .val (.int (0 : Int32)), .val (.ref aS), .val (.ref aE), .unset, .unset, .unset]) rfl ?_
        show Steps p.tables e below (T113.setTop (mkF m 54 #[.val (.int p1), .val (.int p2), .val (.int (1 : Int32)), .val (.int (0 : Int32)), .val (.ref aS), .val (.ref aE), .unset, .unset, .unset] [])) _
        refine XS.iloadN X113.here hx rfl (hb hby at_54) rfl ?_
        show Steps p.tables e below (T113.setTop (mkF m 55 #[.val (.int p1), .val (.int p2), .val (.int (1 : Int32)), .val (.int (0 : Int32)), .val (.ref aS), .val (.ref aE), .unset, .unset, .unset] [(.int (1 : Int32))])) _
        refine XS.ifNo X113.here hx rfl (hb hby at_55) rfl ((if0 _ _).trans (feq (by decide)).1) ?_
        show Steps p.tables e below (T113.setTop (mkF m 58 #[.val (.int p1), .val (.int p2), .val (.int (1 : Int32)), .val (.int (0 : Int32)), .val (.ref aS), .val (.ref aE), .unset, .unset, .unset] [])) _
        refine XS.iloadN X113.here hx rfl (hb hby at_58) rfl ?_
        show Steps p.tables e below (T113.setTop (mkF m 59 #[.val (.int p1), .val (.int p2), .val (.int (1 : Int32)), .val (.int (0 : Int32)), .val (.ref aS), .val (.ref aE), .unset, .unset, .unset] [(.int (0 : Int32))])) _
        refine XS.ifYes X113.here hx rfl (pc0 := 59) (pc' := 68) rfl (hb hby at_59) rfl ((if0 _ _).trans (teq (by decide)).1) (by decide) (by decide) ?_
        show Steps p.tables e below (T113.setTop (mkF m 68 #[.val (.int p1), .val (.int p2), .val (.int (1 : Int32)), .val (.int (0 : Int32)), .val (.ref aS), .val (.ref aE), .unset, .unset, .unset] [])) _
        refine XS.iconst X113.here hx rfl (hb hby at_68) ?_
        show Steps p.tables e below (T113.setTop (mkF m 69 #[.val (.int p1), .val (.int p2), .val (.int (1 : Int32)), .val (.int (0 : Int32)), .val (.ref aS), .val (.ref aE), .unset, .unset, .unset] [(.int (1 : Int32))])) _
        refine XS.istore X113.here hx rfl (hb hby at_69) rfl (l' := #[.val (.int p1), .val (.int p2), .val (.int (1 : Int32)), .val (.int (0 : Int32)), .val (.ref aS), .val (.ref aE), .val (.int (1 : Int32)), .unset, .unset]) rfl ?_
        show Steps p.tables e below (T113.setTop (mkF m 71 #[.val (.int p1), .val (.int p2), .val (.int (1 : Int32)), .val (.int (0 : Int32)), .val (.ref aS), .val (.ref aE), .val (.int (1 : Int32)), .unset, .unset] [])) _
        refine XS.goto X113.here hx rfl (pc0 := 71) (pc' := 77) rfl (hb hby at_71) (by decide) (by decide) ?_
        show Steps p.tables e below (T113.setTop (mkF m 77 #[.val (.int p1), .val (.int p2), .val (.int (1 : Int32)), .val (.int (0 : Int32)), .val (.ref aS), .val (.ref aE), .val (.int (1 : Int32)), .unset, .unset] [])) _
        refine XS.aload X113.here hx rfl (hb hby at_77) rfl rfl ?_
        show Steps p.tables e below (T113.setTop (mkF m 79 #[.val (.int p1), .val (.int p2), .val (.int (1 : Int32)), .val (.int (0 : Int32)), .val (.ref aS), .val (.ref aE), .val (.int (1 : Int32)), .unset, .unset] [(.ref aS)])) _
        refine XS.aload X113.here hx rfl (hb hby at_79) rfl rfl ?_
        show Steps p.tables e below (T113.setTop (mkF m 81 #[.val (.int p1), .val (.int p2), .val (.int (1 : Int32)), .val (.int (0 : Int32)), .val (.ref aS), .val (.ref aE), .val (.int (1 : Int32)), .unset, .unset] [(.ref aE), (.ref aS)])) _
        exact k
      obtain ⟨cq114, kq114, qa114, qb114, qc114⟩ := isOf hZ e113 E_S
      obtain ⟨_, _, ⟨T114, L114, kk114, nn114⟩, -, X114, ⟨Lc114, hQ114, l114, y114, z114⟩, st114⟩ := X113.virtualBack hx (y := (⟨"com/example/limpet/limpet/FolderMode", "conflictsWith", "(Lcom/example/limpet/limpet/FolderMode;)Z"⟩ : MethodName)) (z := (⟨"com/example/limpet/limpet/FolderMode", "conflictsWith", "(Lcom/example/limpet/limpet/FolderMode;)Z"⟩ : MethodName)) hown (mvT hZ (hw _ (List.mem_of_getElem? (i := 5) rfl))) (mvT hZ (hw _ (List.mem_of_getElem? (i := 6) rfl))) (notFace_of_selects (args := #[]) (mvT hZ (hw _ (List.mem_of_getElem? (i := 8) rfl)))) (mvT hZ (hw _ (List.mem_of_getElem? (i := 8) rfl))) (mvT hZ (hw _ (List.mem_of_getElem? (i := 7) rfl))) (by decide) (backOf (W := 0) (rm1 l Z a0 hw [] aS aE aE h0 n0 Z0 S_E) hZ (hw _ (List.mem_of_getElem? (i := 9) rfl)) (hw _ (List.mem_of_getElem? (i := 1) rfl)) (by decide) (by decide)) qa114 qc114 (g := (mkF m 81 #[.val (.int p1), .val (.int p2), .val (.int (1 : Int32)), .val (.int (0 : Int32)), .val (.ref aS), .val (.ref aE), .val (.int (1 : Int32)), .unset, .unset] [(.ref aE), (.ref aS)])) rfl (by rw [hml]; rfl) (Steps.refl _) (argsL := [(.ref aE)]) (rest := []) (lenOf pd_0 rfl) rfl (by show 2 * 0 + _ ≤ _; exact Nat.le_of_eq rfl) (hb hby at_81) (fun _ _ => ⟨rfl, e113, (by decide : 0 + 0 ≤ _), (by decide : 0 + 0 ≤ _)⟩)
      dsimp only [Pt.U, Pt.locs, Pt.cells, Pt.slots] at X114 l114 y114 z114 st114 hQ114
      subst l114 y114 z114
      obtain ⟨rfl, Nq114, eq114⟩ := hQ114
      have N114 := Fr.app N0 Nq114
      refine EndsQ.go (fun t k => st114.trans k) ?_
      show EndsQ _ _ _ _ _ _ _ (T114.setTop (mkF m 84 #[.val (.int p1), .val (.int p2), .val (.int (1 : Int32)), .val (.int (0 : Int32)), .val (.ref aS), .val (.ref aE), .val (.int (1 : Int32)), .unset, .unset] [(.int (own_conf aS aE aE))]))
      refine EndsQ.go (b := T114.setTop (mkF m 90 #[.val (.int p1), .val (.int p2), .val (.int (1 : Int32)), .val (.int (0 : Int32)), .val (.ref aS), .val (.ref aE), .val (.int (1 : Int32)), .val (.int (own_conf aS aE aE)), .unset] [(.ref aS), (.ref aE)])) (fun t k => ?_) ?_
      · show Steps p.tables e below (T114.setTop (mkF m 84 #[.val (.int p1), .val (.int p2), .val (.int (1 : Int32)), .val (.int (0 : Int32)), .val (.ref aS), .val (.ref aE), .val (.int (1 : Int32)), .unset, .unset] [(.int (own_conf aS aE aE))])) _
        refine XS.istore X114.here hx rfl (hb hby at_84) rfl (l' := #[.val (.int p1), .val (.int p2), .val (.int (1 : Int32)), .val (.int (0 : Int32)), .val (.ref aS), .val (.ref aE), .val (.int (1 : Int32)), .val (.int (own_conf aS aE aE)), .unset]) rfl ?_
        show Steps p.tables e below (T114.setTop (mkF m 86 #[.val (.int p1), .val (.int p2), .val (.int (1 : Int32)), .val (.int (0 : Int32)), .val (.ref aS), .val (.ref aE), .val (.int (1 : Int32)), .val (.int (own_conf aS aE aE)), .unset] [])) _
        refine XS.aload X114.here hx rfl (hb hby at_86) rfl rfl ?_
        show Steps p.tables e below (T114.setTop (mkF m 88 #[.val (.int p1), .val (.int p2), .val (.int (1 : Int32)), .val (.int (0 : Int32)), .val (.ref aS), .val (.ref aE), .val (.int (1 : Int32)), .val (.int (own_conf aS aE aE)), .unset] [(.ref aE)])) _
        refine XS.aload X114.here hx rfl (hb hby at_88) rfl rfl ?_
        show Steps p.tables e below (T114.setTop (mkF m 90 #[.val (.int p1), .val (.int p2), .val (.int (1 : Int32)), .val (.int (0 : Int32)), .val (.ref aS), .val (.ref aE), .val (.int (1 : Int32)), .val (.int (own_conf aS aE aE)), .unset] [(.ref aS), (.ref aE)])) _
        exact k
      obtain ⟨cq115, kq115, qa115, qb115, qc115⟩ := isOf hZ eq114 E_E
      obtain ⟨_, _, ⟨T115, L115, kk115, nn115⟩, -, X115, ⟨Lc115, hQ115, l115, y115, z115⟩, st115⟩ := X114.virtualBack hx (y := (⟨"com/example/limpet/limpet/FolderMode", "conflictsWith", "(Lcom/example/limpet/limpet/FolderMode;)Z"⟩ : MethodName)) (z := (⟨"com/example/limpet/limpet/FolderMode", "conflictsWith", "(Lcom/example/limpet/limpet/FolderMode;)Z"⟩ : MethodName)) hown (mvT hZ (hw _ (List.mem_of_getElem? (i := 5) rfl))) (mvT hZ (hw _ (List.mem_of_getElem? (i := 6) rfl))) (notFace_of_selects (args := #[]) (mvT hZ (hw _ (List.mem_of_getElem? (i := 8) rfl)))) (mvT hZ (hw _ (List.mem_of_getElem? (i := 8) rfl))) (mvT hZ (hw _ (List.mem_of_getElem? (i := 7) rfl))) (by decide) (backOf (W := 0) (rm1 l Z a0 hw [] aE aS aE h0 n0 Z0 S_E) hZ (hw _ (List.mem_of_getElem? (i := 9) rfl)) (hw _ (List.mem_of_getElem? (i := 1) rfl)) (by decide) (by decide)) qa115 qc115 (g := (mkF m 90 #[.val (.int p1), .val (.int p2), .val (.int (1 : Int32)), .val (.int (0 : Int32)), .val (.ref aS), .val (.ref aE), .val (.int (1 : Int32)), .val (.int (own_conf aS aE aE)), .unset] [(.ref aS), (.ref aE)])) rfl (by rw [hml]; rfl) (Steps.refl _) (argsL := [(.ref aS)]) (rest := []) (lenOf pd_0 rfl) rfl (by show 2 * 0 + _ ≤ _; exact Nat.le_of_eq rfl) (hb hby at_90) (fun _ _ => ⟨rfl, eq114, (by decide : 0 + 0 ≤ _), (by decide : 0 + 0 ≤ _)⟩)
      dsimp only [Pt.U, Pt.locs, Pt.cells, Pt.slots] at X115 l115 y115 z115 st115 hQ115
      subst l115 y115 z115
      obtain ⟨rfl, Nq115, eq115⟩ := hQ115
      have N115 := Fr.app N114 Nq115
      refine EndsQ.go (fun t k => st115.trans k) ?_
      show EndsQ _ _ _ _ _ _ _ (T115.setTop (mkF m 93 #[.val (.int p1), .val (.int p2), .val (.int (1 : Int32)), .val (.int (0 : Int32)), .val (.ref aS), .val (.ref aE), .val (.int (1 : Int32)), .val (.int (own_conf aS aE aE)), .unset] [(.int (own_conf aE aS aE))]))
      refine EndsQ.go (b := T115.setTop (mkF m 114 #[.val (.int p1), .val (.int p2), .val (.int (1 : Int32)), .val (.int (0 : Int32)), .val (.ref aS), .val (.ref aE), .val (.int (1 : Int32)), .val (.int (own_conf aS aE aE)), .val (.int (own_conf aE aS aE))] [(.int (1 : Int32))])) (fun t k => ?_) ?_
      · show Steps p.tables e below (T115.setTop (mkF m 93 #[.val (.int p1), .val (.int p2), .val (.int (1 : Int32)), .val (.int (0 : Int32)), .val (.ref aS), .val (.ref aE), .val (.int (1 : Int32)), .val (.int (own_conf aS aE aE)), .unset] [(.int (own_conf aE aS aE))])) _
        refine XS.istore X115.here hx rfl (hb hby at_93) rfl (l' := #[.val (.int p1), .val (.int p2), .val (.int (1 : Int32)), .val (.int (0 : Int32)), .val (.ref aS), .val (.ref aE), .val (.int (1 : Int32)), .val (.int (own_conf aS aE aE)), .val (.int (own_conf aE aS aE))]) rfl ?_
        show Steps p.tables e below (T115.setTop (mkF m 95 #[.val (.int p1), .val (.int p2), .val (.int (1 : Int32)), .val (.int (0 : Int32)), .val (.ref aS), .val (.ref aE), .val (.int (1 : Int32)), .val (.int (own_conf aS aE aE)), .val (.int (own_conf aE aS aE))] [])) _
        refine XS.iload X115.here hx rfl (hb hby at_95) rfl ?_
        show Steps p.tables e below (T115.setTop (mkF m 97 #[.val (.int p1), .val (.int p2), .val (.int (1 : Int32)), .val (.int (0 : Int32)), .val (.ref aS), .val (.ref aE), .val (.int (1 : Int32)), .val (.int (own_conf aS aE aE)), .val (.int (own_conf aE aS aE))] [(.int (own_conf aS aE aE))])) _
        refine XS.iload X115.here hx rfl (hb hby at_97) rfl ?_
        show Steps p.tables e below (T115.setTop (mkF m 99 #[.val (.int p1), .val (.int p2), .val (.int (1 : Int32)), .val (.int (0 : Int32)), .val (.ref aS), .val (.ref aE), .val (.int (1 : Int32)), .val (.int (own_conf aS aE aE)), .val (.int (own_conf aE aS aE))] [(.int (1 : Int32)), (.int (own_conf aS aE aE))])) _
        refine XS.icmpNo X115.here hx rfl (hb hby at_99) rfl (teq (by simp [own_conf, hne])).2 ?_
        show Steps p.tables e below (T115.setTop (mkF m 102 #[.val (.int p1), .val (.int p2), .val (.int (1 : Int32)), .val (.int (0 : Int32)), .val (.ref aS), .val (.ref aE), .val (.int (1 : Int32)), .val (.int (own_conf aS aE aE)), .val (.int (own_conf aE aS aE))] [])) _
        refine XS.iload X115.here hx rfl (hb hby at_102) rfl ?_
        show Steps p.tables e below (T115.setTop (mkF m 104 #[.val (.int p1), .val (.int p2), .val (.int (1 : Int32)), .val (.int (0 : Int32)), .val (.ref aS), .val (.ref aE), .val (.int (1 : Int32)), .val (.int (own_conf aS aE aE)), .val (.int (own_conf aE aS aE))] [(.int (own_conf aE aS aE))])) _
        refine XS.iload X115.here hx rfl (hb hby at_104) rfl ?_
        show Steps p.tables e below (T115.setTop (mkF m 106 #[.val (.int p1), .val (.int p2), .val (.int (1 : Int32)), .val (.int (0 : Int32)), .val (.ref aS), .val (.ref aE), .val (.int (1 : Int32)), .val (.int (own_conf aS aE aE)), .val (.int (own_conf aE aS aE))] [(.int (1 : Int32)), (.int (own_conf aE aS aE))])) _
        refine XS.icmpNo X115.here hx rfl (hb hby at_106) rfl (teq (by simp [own_conf, hne])).2 ?_
        show Steps p.tables e below (T115.setTop (mkF m 109 #[.val (.int p1), .val (.int p2), .val (.int (1 : Int32)), .val (.int (0 : Int32)), .val (.ref aS), .val (.ref aE), .val (.int (1 : Int32)), .val (.int (own_conf aS aE aE)), .val (.int (own_conf aE aS aE))] [])) _
        refine XS.iconst X115.here hx rfl (hb hby at_109) ?_
        show Steps p.tables e below (T115.setTop (mkF m 110 #[.val (.int p1), .val (.int p2), .val (.int (1 : Int32)), .val (.int (0 : Int32)), .val (.ref aS), .val (.ref aE), .val (.int (1 : Int32)), .val (.int (own_conf aS aE aE)), .val (.int (own_conf aE aS aE))] [(.int (1 : Int32))])) _
        refine XS.goto X115.here hx rfl (pc0 := 110) (pc' := 114) rfl (hb hby at_110) (by decide) (by decide) ?_
        show Steps p.tables e below (T115.setTop (mkF m 114 #[.val (.int p1), .val (.int p2), .val (.int (1 : Int32)), .val (.int (0 : Int32)), .val (.ref aS), .val (.ref aE), .val (.int (1 : Int32)), .val (.int (own_conf aS aE aE)), .val (.int (own_conf aE aS aE))] [(.int (1 : Int32))])) _
        exact k
      refine EndsQ.retN X115 hx Bd.notSynchronized (t := .boolean) Bd.returns (by simp) (hb hby at_114) (by decide) (by decide) ?_
      show Q0 Z p1 p2 aS aE h0 n0 (some (.int (nar .boolean (1 : Int32)))) T115.heap _
      rw [eq115]
      exact ⟨rfl, N115⟩
    · refine EndsQ.go (b := s₁.setTop (mkF m 18 #[.val (.int p1), .val (.int p2), .val (.int (1 : Int32)), .unset, .unset, .unset, .unset, .unset, .unset] [])) (fun t k => ?_) ?_
      · show Steps p.tables e below (s₁.setTop (mkF m 15 #[.val (.int p1), .val (.int p2), .val (.int (1 : Int32)), .unset, .unset, .unset, .unset, .unset, .unset] [(.int (p2 &&& (1 : Int32)))])) _
        refine XS.ifNo X0.here hx rfl (hb hby at_15) rfl ((if0 _ _).trans (feq hc15_111).1) ?_
        show Steps p.tables e below (s₁.setTop (mkF m 18 #[.val (.int p1), .val (.int p2), .val (.int (1 : Int32)), .unset, .unset, .unset, .unset, .unset, .unset] [])) _
        exact k
      refine EndsQ.go (b := s₁.setTop (mkF m 28 #[.val (.int p1), .val (.int p2), .val (.int (1 : Int32)), .val (.int (1 : Int32)), .unset, .unset, .unset, .unset, .unset] [])) (fun t k => ?_) ?_
      · show Steps p.tables e below (s₁.setTop (mkF m 18 #[.val (.int p1), .val (.int p2), .val (.int (1 : Int32)), .unset, .unset, .unset, .unset, .unset, .unset] [])) _
        refine XS.iconst X0.here hx rfl (hb hby at_18) ?_
        show Steps p.tables e below (s₁.setTop (mkF m 19 #[.val (.int p1), .val (.int p2), .val (.int (1 : Int32)), .unset, .unset, .unset, .unset, .unset, .unset] [(.int (1 : Int32))])) _
        refine XS.goto X0.here hx rfl (pc0 := 19) (pc' := 23) rfl (hb hby at_19) (by decide) (by decide) ?_
        show Steps p.tables e below (s₁.setTop (mkF m 23 #[.val (.int p1), .val (.int p2), .val (.int (1 : Int32)), .unset, .unset, .unset, .unset, .unset, .unset] [(.int (1 : Int32))])) _
        refine XS.istoreN X0.here hx rfl (hb hby at_23) rfl (l' := #[.val (.int p1), .val (.int p2), .val (.int (1 : Int32)), .val (.int (1 : Int32)), .unset, .unset, .unset, .unset, .unset]) rfl ?_
        show Steps p.tables e below (s₁.setTop (mkF m 24 #[.val (.int p1), .val (.int p2), .val (.int (1 : Int32)), .val (.int (1 : Int32)), .unset, .unset, .unset, .unset, .unset] [])) _
        refine XS.iloadN X0.here hx rfl (hb hby at_24) rfl ?_
        show Steps p.tables e below (s₁.setTop (mkF m 25 #[.val (.int p1), .val (.int p2), .val (.int (1 : Int32)), .val (.int (1 : Int32)), .unset, .unset, .unset, .unset, .unset] [(.int (1 : Int32))])) _
        refine XS.ifNo X0.here hx rfl (hb hby at_25) rfl ((if0 _ _).trans (feq (by decide)).1) ?_
        show Steps p.tables e below (s₁.setTop (mkF m 28 #[.val (.int p1), .val (.int p2), .val (.int (1 : Int32)), .val (.int (1 : Int32)), .unset, .unset, .unset, .unset, .unset] [])) _
        exact k
      obtain ⟨T116, X116, e116, st116⟩ := getS X0 hx hZ hown (host := "") (hw _ (List.mem_of_getElem? (i := 3) rfl)) Via.refl e0 S_S (g := (mkF m 28 #[.val (.int p1), .val (.int p2), .val (.int (1 : Int32)), .val (.int (1 : Int32)), .unset, .unset, .unset, .unset, .unset] [])) rfl (hb hby at_28)
      refine EndsQ.go st116 ?_
      show EndsQ _ _ _ _ _ _ _ (T116.setTop (mkF m 31 #[.val (.int p1), .val (.int p2), .val (.int (1 : Int32)), .val (.int (1 : Int32)), .unset, .unset, .unset, .unset, .unset] [(.ref aS)]))
      refine EndsQ.go (b := T116.setTop (mkF m 43 #[.val (.int p1), .val (.int p2), .val (.int (1 : Int32)), .val (.int (1 : Int32)), .val (.ref aS), .unset, .unset, .unset, .unset] [])) (fun t k => ?_) ?_
      · show Steps p.tables e below (T116.setTop (mkF m 31 #[.val (.int p1), .val (.int p2), .val (.int (1 : Int32)), .val (.int (1 : Int32)), .unset, .unset, .unset, .unset, .unset] [(.ref aS)])) _
        refine XS.goto X116.here hx rfl (pc0 := 31) (pc' := 37) rfl (hb hby at_31) (by decide) (by decide) ?_
        show Steps p.tables e below (T116.setTop (mkF m 37 #[.val (.int p1), .val (.int p2), .val (.int (1 : Int32)), .val (.int (1 : Int32)), .unset, .unset, .unset, .unset, .unset] [(.ref aS)])) _
        refine XS.astore X116.here hx rfl (hb hby at_37) rfl rfl (l' := #[.val (.int p1), .val (.int p2), .val (.int (1 : Int32)), .val (.int (1 : Int32)), .val (.ref aS), .unset, .unset, .unset, .unset]) rfl ?_
        show Steps p.tables e below (T116.setTop (mkF m 39 #[.val (.int p1), .val (.int p2), .val (.int (1 : Int32)), .val (.int (1 : Int32)), .val (.ref aS), .unset, .unset, .unset, .unset] [])) _
        refine XS.iloadN X116.here hx rfl (hb hby at_39) rfl ?_
        show Steps p.tables e below (T116.setTop (mkF m 40 #[.val (.int p1), .val (.int p2), .val (.int (1 : Int32)), .val (.int (1 : Int32)), .val (.ref aS), .unset, .unset, .unset, .unset] [(.int (1 : Int32))])) _
        refine XS.ifNo X116.here hx rfl (hb hby at_40) rfl ((if0 _ _).trans (feq (by decide)).1) ?_
        show Steps p.tables e below (T116.setTop (mkF m 43 #[.val (.int p1), .val (.int p2), .val (.int (1 : Int32)), .val (.int (1 : Int32)), .val (.ref aS), .unset, .unset, .unset, .unset] [])) _
        exact k
      obtain ⟨T117, X117, e117, st117⟩ := getS X116 hx hZ hown (host := "") (hw _ (List.mem_of_getElem? (i := 3) rfl)) Via.refl e116 S_S (g := (mkF m 43 #[.val (.int p1), .val (.int p2), .val (.int (1 : Int32)), .val (.int (1 : Int32)), .val (.ref aS), .unset, .unset, .unset, .unset] [])) rfl (hb hby at_43)
      refine EndsQ.go st117 ?_
      show EndsQ _ _ _ _ _ _ _ (T117.setTop (mkF m 46 #[.val (.int p1), .val (.int p2), .val (.int (1 : Int32)), .val (.int (1 : Int32)), .val (.ref aS), .unset, .unset, .unset, .unset] [(.ref aS)]))
      refine EndsQ.go (b := T117.setTop (mkF m 81 #[.val (.int p1), .val (.int p2), .val (.int (1 : Int32)), .val (.int (1 : Int32)), .val (.ref aS), .val (.ref aS), .val (.int (0 : Int32)), .unset, .unset] [(.ref aS), (.ref aS)])) (fun t k => ?_) ?_
      · show Steps p.tables e below (T117.setTop (mkF m 46 #[.val (.int p1), .val (.int p2), .val (.int (1 : Int32)), .val (.int (1 : Int32)), .val (.ref aS), .unset, .unset, .unset, .unset] [(.ref aS)])) _
        refine XS.goto X117.here hx rfl (pc0 := 46) (pc' := 52) rfl (hb hby at_46) (by decide) (by decide) ?_
        show Steps p.tables e below (T117.setTop (mkF m 52 #[.val (.int p1), .val (.int p2), .val (.int (1 : Int32)), .val (.int (1 : Int32)), .val (.ref aS), .unset, .unset, .unset, .unset] [(.ref aS)])) _
        refine XS.astore X117.here hx rfl (hb hby at_52) rfl rfl (l' := #[.val (.int p1), .val (.int p2), .val (.int (1 : Int32)), .val (.int (1 : Int32)), .val (.ref aS), .val (.ref aS), .unset, .unset, .unset]) rfl ?_
        show Steps p.tables e below (T117.setTop (mkF m 54 #[.val (.int p1), .val (.int p2), .val (.int (1 : Int32)), .val (.int (1 : Int32)), .val (.ref aS), .val (.ref aS), .unset, .unset, .unset] [])) _
        refine XS.iloadN X117.here hx rfl (hb hby at_54) rfl ?_
        show Steps p.tables e below (T117.setTop (mkF m 55 #[.val (.int p1), .val (.int p2), .val (.int (1 : Int32)), .val (.int (1 : Int32)), .val (.ref aS), .val (.ref aS), .unset, .unset, .unset] [(.int (1 : Int32))])) _
        refine XS.ifNo X117.here hx rfl (hb hby at_55) rfl ((if0 _ _).trans (feq (by decide)).1) ?_
        show Steps p.tables e below (T117.setTop (mkF m 58 #[.val (.int p1), .val (.int p2), .val (.int (1 : Int32)), .val (.int (1 : Int32)), .val (.ref aS), .val (.ref aS), .unset, .unset, .unset] [])) _
        refine XS.iloadN X117.here hx rfl (hb hby at_58) rfl ?_
        show Steps p.tables e below (T117.setTop (mkF m 59 #[.val (.int p1), .val (.int p2), .val (.int (1 : Int32)), .val (.int (1 : Int32)), .val (.ref aS), .val (.ref aS), .unset, .unset, .unset] [(.int (1 : Int32))])) _
        refine XS.ifNo X117.here hx rfl (hb hby at_59) rfl ((if0 _ _).trans (feq (by decide)).1) ?_
        show Steps p.tables e below (T117.setTop (mkF m 62 #[.val (.int p1), .val (.int p2), .val (.int (1 : Int32)), .val (.int (1 : Int32)), .val (.ref aS), .val (.ref aS), .unset, .unset, .unset] [])) _
        refine XS.iconst X117.here hx rfl (hb hby at_62) ?_
        show Steps p.tables e below (T117.setTop (mkF m 63 #[.val (.int p1), .val (.int p2), .val (.int (1 : Int32)), .val (.int (1 : Int32)), .val (.ref aS), .val (.ref aS), .unset, .unset, .unset] [(.int (0 : Int32))])) _
        refine XS.istore X117.here hx rfl (hb hby at_63) rfl (l' := #[.val (.int p1), .val (.int p2), .val (.int (1 : Int32)), .val (.int (1 : Int32)), .val (.ref aS), .val (.ref aS), .val (.int (0 : Int32)), .unset, .unset]) rfl ?_
        show Steps p.tables e below (T117.setTop (mkF m 65 #[.val (.int p1), .val (.int p2), .val (.int (1 : Int32)), .val (.int (1 : Int32)), .val (.ref aS), .val (.ref aS), .val (.int (0 : Int32)), .unset, .unset] [])) _
        refine XS.goto X117.here hx rfl (pc0 := 65) (pc' := 77) rfl (hb hby at_65) (by decide) (by decide) ?_
        show Steps p.tables e below (T117.setTop (mkF m 77 #[.val (.int p1), .val (.int p2), .val (.int (1 : Int32)), .val (.int (1 : Int32)), .val (.ref aS), .val (.ref aS), .val (.int (0 : Int32)), .unset, .unset] [])) _
        refine XS.aload X117.here hx rfl (hb hby at_77) rfl rfl ?_
        show Steps p.tables e below (T117.setTop (mkF m 79 #[.val (.int p1), .val (.int p2), .val (.int (1 : Int32)), .val (.int (1 : Int32)), .val (.ref aS), .val (.ref aS), .val (.int (0 : Int32)), .unset, .unset] [(.ref aS)])) _
        refine XS.aload X117.here hx rfl (hb hby at_79) rfl rfl ?_
        show Steps p.tables e below (T117.setTop (mkF m 81 #[.val (.int p1), .val (.int p2), .val (.int (1 : Int32)), .val (.int (1 : Int32)), .val (.ref aS), .val (.ref aS), .val (.int (0 : Int32)), .unset, .unset] [(.ref aS), (.ref aS)])) _
        exact k
      obtain ⟨cq118, kq118, qa118, qb118, qc118⟩ := isOf hZ e117 E_S
      obtain ⟨_, _, ⟨T118, L118, kk118, nn118⟩, -, X118, ⟨Lc118, hQ118, l118, y118, z118⟩, st118⟩ := X117.virtualBack hx (y := (⟨"com/example/limpet/limpet/FolderMode", "conflictsWith", "(Lcom/example/limpet/limpet/FolderMode;)Z"⟩ : MethodName)) (z := (⟨"com/example/limpet/limpet/FolderMode", "conflictsWith", "(Lcom/example/limpet/limpet/FolderMode;)Z"⟩ : MethodName)) hown (mvT hZ (hw _ (List.mem_of_getElem? (i := 5) rfl))) (mvT hZ (hw _ (List.mem_of_getElem? (i := 6) rfl))) (notFace_of_selects (args := #[]) (mvT hZ (hw _ (List.mem_of_getElem? (i := 8) rfl)))) (mvT hZ (hw _ (List.mem_of_getElem? (i := 8) rfl))) (mvT hZ (hw _ (List.mem_of_getElem? (i := 7) rfl))) (by decide) (backOf (W := 0) (rm1 l Z a0 hw [] aS aS aE h0 n0 Z0 S_E) hZ (hw _ (List.mem_of_getElem? (i := 9) rfl)) (hw _ (List.mem_of_getElem? (i := 1) rfl)) (by decide) (by decide)) qa118 qc118 (g := (mkF m 81 #[.val (.int p1), .val (.int p2), .val (.int (1 : Int32)), .val (.int (1 : Int32)), .val (.ref aS), .val (.ref aS), .val (.int (0 : Int32)), .unset, .unset] [(.ref aS), (.ref aS)])) rfl (by rw [hml]; rfl) (Steps.refl _) (argsL := [(.ref aS)]) (rest := []) (lenOf pd_0 rfl) rfl (by show 2 * 0 + _ ≤ _; exact Nat.le_of_eq rfl) (hb hby at_81) (fun _ _ => ⟨rfl, e117, (by decide : 0 + 0 ≤ _), (by decide : 0 + 0 ≤ _)⟩)
      dsimp only [Pt.U, Pt.locs, Pt.cells, Pt.slots] at X118 l118 y118 z118 st118 hQ118
      subst l118 y118 z118
      obtain ⟨rfl, Nq118, eq118⟩ := hQ118
      have N118 := Fr.app N0 Nq118
      refine EndsQ.go (fun t k => st118.trans k) ?_
      show EndsQ _ _ _ _ _ _ _ (T118.setTop (mkF m 84 #[.val (.int p1), .val (.int p2), .val (.int (1 : Int32)), .val (.int (1 : Int32)), .val (.ref aS), .val (.ref aS), .val (.int (0 : Int32)), .unset, .unset] [(.int (own_conf aS aS aE))]))
      refine EndsQ.go (b := T118.setTop (mkF m 90 #[.val (.int p1), .val (.int p2), .val (.int (1 : Int32)), .val (.int (1 : Int32)), .val (.ref aS), .val (.ref aS), .val (.int (0 : Int32)), .val (.int (own_conf aS aS aE)), .unset] [(.ref aS), (.ref aS)])) (fun t k => ?_) ?_
      · show Steps p.tables e below (T118.setTop (mkF m 84 #[.val (.int p1), .val (.int p2), .val (.int (1 : Int32)), .val (.int (1 : Int32)), .val (.ref aS), .val (.ref aS), .val (.int (0 : Int32)), .unset, .unset] [(.int (own_conf aS aS aE))])) _
        refine XS.istore X118.here hx rfl (hb hby at_84) rfl (l' := #[.val (.int p1), .val (.int p2), .val (.int (1 : Int32)), .val (.int (1 : Int32)), .val (.ref aS), .val (.ref aS), .val (.int (0 : Int32)), .val (.int (own_conf aS aS aE)), .unset]) rfl ?_
        show Steps p.tables e below (T118.setTop (mkF m 86 #[.val (.int p1), .val (.int p2), .val (.int (1 : Int32)), .val (.int (1 : Int32)), .val (.ref aS), .val (.ref aS), .val (.int (0 : Int32)), .val (.int (own_conf aS aS aE)), .unset] [])) _
        refine XS.aload X118.here hx rfl (hb hby at_86) rfl rfl ?_
        show Steps p.tables e below (T118.setTop (mkF m 88 #[.val (.int p1), .val (.int p2), .val (.int (1 : Int32)), .val (.int (1 : Int32)), .val (.ref aS), .val (.ref aS), .val (.int (0 : Int32)), .val (.int (own_conf aS aS aE)), .unset] [(.ref aS)])) _
        refine XS.aload X118.here hx rfl (hb hby at_88) rfl rfl ?_
        show Steps p.tables e below (T118.setTop (mkF m 90 #[.val (.int p1), .val (.int p2), .val (.int (1 : Int32)), .val (.int (1 : Int32)), .val (.ref aS), .val (.ref aS), .val (.int (0 : Int32)), .val (.int (own_conf aS aS aE)), .unset] [(.ref aS), (.ref aS)])) _
        exact k
      obtain ⟨cq119, kq119, qa119, qb119, qc119⟩ := isOf hZ eq118 E_S
      obtain ⟨_, _, ⟨T119, L119, kk119, nn119⟩, -, X119, ⟨Lc119, hQ119, l119, y119, z119⟩, st119⟩ := X118.virtualBack hx (y := (⟨"com/example/limpet/limpet/FolderMode", "conflictsWith", "(Lcom/example/limpet/limpet/FolderMode;)Z"⟩ : MethodName)) (z := (⟨"com/example/limpet/limpet/FolderMode", "conflictsWith", "(Lcom/example/limpet/limpet/FolderMode;)Z"⟩ : MethodName)) hown (mvT hZ (hw _ (List.mem_of_getElem? (i := 5) rfl))) (mvT hZ (hw _ (List.mem_of_getElem? (i := 6) rfl))) (notFace_of_selects (args := #[]) (mvT hZ (hw _ (List.mem_of_getElem? (i := 8) rfl)))) (mvT hZ (hw _ (List.mem_of_getElem? (i := 8) rfl))) (mvT hZ (hw _ (List.mem_of_getElem? (i := 7) rfl))) (by decide) (backOf (W := 0) (rm1 l Z a0 hw [] aS aS aE h0 n0 Z0 S_E) hZ (hw _ (List.mem_of_getElem? (i := 9) rfl)) (hw _ (List.mem_of_getElem? (i := 1) rfl)) (by decide) (by decide)) qa119 qc119 (g := (mkF m 90 #[.val (.int p1), .val (.int p2), .val (.int (1 : Int32)), .val (.int (1 : Int32)), .val (.ref aS), .val (.ref aS), .val (.int (0 : Int32)), .val (.int (own_conf aS aS aE)), .unset] [(.ref aS), (.ref aS)])) rfl (by rw [hml]; rfl) (Steps.refl _) (argsL := [(.ref aS)]) (rest := []) (lenOf pd_0 rfl) rfl (by show 2 * 0 + _ ≤ _; exact Nat.le_of_eq rfl) (hb hby at_90) (fun _ _ => ⟨rfl, eq118, (by decide : 0 + 0 ≤ _), (by decide : 0 + 0 ≤ _)⟩)
      dsimp only [Pt.U, Pt.locs, Pt.cells, Pt.slots] at X119 l119 y119 z119 st119 hQ119
      subst l119 y119 z119
      obtain ⟨rfl, Nq119, eq119⟩ := hQ119
      have N119 := Fr.app N118 Nq119
      refine EndsQ.go (fun t k => st119.trans k) ?_
      show EndsQ _ _ _ _ _ _ _ (T119.setTop (mkF m 93 #[.val (.int p1), .val (.int p2), .val (.int (1 : Int32)), .val (.int (1 : Int32)), .val (.ref aS), .val (.ref aS), .val (.int (0 : Int32)), .val (.int (own_conf aS aS aE)), .unset] [(.int (own_conf aS aS aE))]))
      refine EndsQ.go (b := T119.setTop (mkF m 114 #[.val (.int p1), .val (.int p2), .val (.int (1 : Int32)), .val (.int (1 : Int32)), .val (.ref aS), .val (.ref aS), .val (.int (0 : Int32)), .val (.int (own_conf aS aS aE)), .val (.int (own_conf aS aS aE))] [(.int (1 : Int32))])) (fun t k => ?_) ?_
      · show Steps p.tables e below (T119.setTop (mkF m 93 #[.val (.int p1), .val (.int p2), .val (.int (1 : Int32)), .val (.int (1 : Int32)), .val (.ref aS), .val (.ref aS), .val (.int (0 : Int32)), .val (.int (own_conf aS aS aE)), .unset] [(.int (own_conf aS aS aE))])) _
        refine XS.istore X119.here hx rfl (hb hby at_93) rfl (l' := #[.val (.int p1), .val (.int p2), .val (.int (1 : Int32)), .val (.int (1 : Int32)), .val (.ref aS), .val (.ref aS), .val (.int (0 : Int32)), .val (.int (own_conf aS aS aE)), .val (.int (own_conf aS aS aE))]) rfl ?_
        show Steps p.tables e below (T119.setTop (mkF m 95 #[.val (.int p1), .val (.int p2), .val (.int (1 : Int32)), .val (.int (1 : Int32)), .val (.ref aS), .val (.ref aS), .val (.int (0 : Int32)), .val (.int (own_conf aS aS aE)), .val (.int (own_conf aS aS aE))] [])) _
        refine XS.iload X119.here hx rfl (hb hby at_95) rfl ?_
        show Steps p.tables e below (T119.setTop (mkF m 97 #[.val (.int p1), .val (.int p2), .val (.int (1 : Int32)), .val (.int (1 : Int32)), .val (.ref aS), .val (.ref aS), .val (.int (0 : Int32)), .val (.int (own_conf aS aS aE)), .val (.int (own_conf aS aS aE))] [(.int (own_conf aS aS aE))])) _
        refine XS.iload X119.here hx rfl (hb hby at_97) rfl ?_
        show Steps p.tables e below (T119.setTop (mkF m 99 #[.val (.int p1), .val (.int p2), .val (.int (1 : Int32)), .val (.int (1 : Int32)), .val (.ref aS), .val (.ref aS), .val (.int (0 : Int32)), .val (.int (own_conf aS aS aE)), .val (.int (own_conf aS aS aE))] [(.int (0 : Int32)), (.int (own_conf aS aS aE))])) _
        refine XS.icmpNo X119.here hx rfl (hb hby at_99) rfl (teq (by simp [own_conf, hne])).2 ?_
        show Steps p.tables e below (T119.setTop (mkF m 102 #[.val (.int p1), .val (.int p2), .val (.int (1 : Int32)), .val (.int (1 : Int32)), .val (.ref aS), .val (.ref aS), .val (.int (0 : Int32)), .val (.int (own_conf aS aS aE)), .val (.int (own_conf aS aS aE))] [])) _
        refine XS.iload X119.here hx rfl (hb hby at_102) rfl ?_
        show Steps p.tables e below (T119.setTop (mkF m 104 #[.val (.int p1), .val (.int p2), .val (.int (1 : Int32)), .val (.int (1 : Int32)), .val (.ref aS), .val (.ref aS), .val (.int (0 : Int32)), .val (.int (own_conf aS aS aE)), .val (.int (own_conf aS aS aE))] [(.int (own_conf aS aS aE))])) _
        refine XS.iload X119.here hx rfl (hb hby at_104) rfl ?_
        show Steps p.tables e below (T119.setTop (mkF m 106 #[.val (.int p1), .val (.int p2), .val (.int (1 : Int32)), .val (.int (1 : Int32)), .val (.ref aS), .val (.ref aS), .val (.int (0 : Int32)), .val (.int (own_conf aS aS aE)), .val (.int (own_conf aS aS aE))] [(.int (0 : Int32)), (.int (own_conf aS aS aE))])) _
        refine XS.icmpNo X119.here hx rfl (hb hby at_106) rfl (teq (by simp [own_conf, hne])).2 ?_
        show Steps p.tables e below (T119.setTop (mkF m 109 #[.val (.int p1), .val (.int p2), .val (.int (1 : Int32)), .val (.int (1 : Int32)), .val (.ref aS), .val (.ref aS), .val (.int (0 : Int32)), .val (.int (own_conf aS aS aE)), .val (.int (own_conf aS aS aE))] [])) _
        refine XS.iconst X119.here hx rfl (hb hby at_109) ?_
        show Steps p.tables e below (T119.setTop (mkF m 110 #[.val (.int p1), .val (.int p2), .val (.int (1 : Int32)), .val (.int (1 : Int32)), .val (.ref aS), .val (.ref aS), .val (.int (0 : Int32)), .val (.int (own_conf aS aS aE)), .val (.int (own_conf aS aS aE))] [(.int (1 : Int32))])) _
        refine XS.goto X119.here hx rfl (pc0 := 110) (pc' := 114) rfl (hb hby at_110) (by decide) (by decide) ?_
        show Steps p.tables e below (T119.setTop (mkF m 114 #[.val (.int p1), .val (.int p2), .val (.int (1 : Int32)), .val (.int (1 : Int32)), .val (.ref aS), .val (.ref aS), .val (.int (0 : Int32)), .val (.int (own_conf aS aS aE)), .val (.int (own_conf aS aS aE))] [(.int (1 : Int32))])) _
        exact k
      refine EndsQ.retN X119 hx Bd.notSynchronized (t := .boolean) Bd.returns (by simp) (hb hby at_114) (by decide) (by decide) ?_
      show Q0 Z p1 p2 aS aE h0 n0 (some (.int (nar .boolean (1 : Int32)))) T119.heap _
      rw [eq119]
      exact ⟨rfl, N119⟩
set_option maxRecDepth 65536 in
set_option maxHeartbeats 40000000 in
theorem comes_1 {Post : Tables → Env → Array Value → State → Outcome → State → Prop} (hpost : ∀ tb e args s v u, (limb_1_1.after args s (.returned v) u = true ∧ limb_1_2.after args s (.returned v) u = true ∧ True) → FrameEnd s (.returned v) u (Jvm.fieldLocs frame_1_writes args s ++ Jvm.arrayLocs frame_1_arrays args s ++ Jvm.staticLocs frame_1_statics s) 0 0 → Post tb e args s (.returned v) u) :
    ArmFor flags0 classFile x code maxLocals ret World_1 tables_1 room_1 Calls_1 rest_1 Pre_1 Post := by
  intro l hfl _ _ p e ha hc hk s m args below hf hA hF happ hP
  obtain ⟨hcalls, hrest, hpre⟩ := hP
  obtain ⟨-, -, -, hnamed, -, -, -, hat⟩ := (Spec.applies_iff hf).mp happ
  obtain ⟨hg, hn⟩ := and_e (Cond.before_iff.mp (show (Jvm.Cond.and given_1 narrow_1).before args s = true from hpre))
  obtain ⟨g1a, g1b⟩ := and_e hg
  obtain ⟨g2a, g2b⟩ := and_e g1b
  obtain ⟨w0, w1, rfl⟩ : ∃ w0 w1 : Value, args = #[w0, w1] := by
    have hs : args.size = 2 := by simpa [Cond.value, given_1] using g1a
    obtain ⟨L⟩ := args
    match L, hs with
    | [w0, w1], _ => exact ⟨w0, w1, rfl⟩
  have hw := fun d (hd : d ∈ tables_1) => atoms_spec (ws := Jvm.Cond.code x code maxLocals ret :: tables_1) hat d (List.mem_cons_of_mem _ hd)
  have hfit : Fit s := fun {y c} hc i hi => by
    obtain ⟨ha, rfl⟩ := Array.getElem?_eq_some_iff.mp hc
    have q := List.all_eq_true.mp ((Array.all_eq_true_iff_forall_mem.mp hF) _ (Array.getElem_mem ha)) i (List.mem_range.mpr hi)
    simpa [Array.getElem?_eq_getElem hi] using q
  obtain ⟨i0, ei0⟩ := is_v g2a
  obtain rfl : w0 = (.int i0) := Option.some.inj ei0
  obtain ⟨i1, ei1⟩ := is_v g2b
  obtain rfl : w1 = (.int i1) := Option.some.inj ei1
  obtain ⟨n0, hn0⟩ := and_e hn
  obtain ⟨n1, hn1⟩ := and_e hn0
  obtain ⟨n2, hn2⟩ := and_e hn1
  obtain ⟨a_EXCLUSIVE, ev_EXCLUSIVE⟩ := exa_v n0
  have X_EXCLUSIVE := Exa.start ev_EXCLUSIVE n0
  have S_EXCLUSIVE := Sta.start ev_EXCLUSIVE (Or.inr ⟨(hw _ (List.mem_of_getElem? (i := 1) rfl)), (hw _ (List.mem_of_getElem? (i := 2) rfl))⟩)
  obtain ⟨a_SHARED, ev_SHARED⟩ := exa_v n1
  have X_SHARED := Exa.start ev_SHARED n1
  have S_SHARED := Sta.start ev_SHARED (Or.inr ⟨(hw _ (List.mem_of_getElem? (i := 1) rfl)), (hw _ (List.mem_of_getElem? (i := 4) rfl))⟩)
  have F_SHARED_ordinal := Fld.start ((fld_at ev_SHARED).symm.trans (own_eqI n2))
  have F_EXCLUSIVE_ordinal := Fld.start ((fld_at ev_EXCLUSIVE).symm.trans (own_eqI hn2))
  have hne : a_SHARED ≠ a_EXCLUSIVE := Fld.ne F_SHARED_ordinal F_EXCLUSIVE_ordinal (by decide)
  obtain ⟨n, o, h1, h2, h3, _, L, rfl, ⟨rfl, N⟩, hq⟩ := rm0 l s _ hw tables_1 i0 i1 a_SHARED a_EXCLUSIVE s.heap s.heap.size (Nat.le_refl _) S_SHARED S_EXCLUSIVE X_SHARED X_EXCLUSIVE hne p e ha hc hk s m _ below hf ((Spec.applies_iff_loose hf).mp happ).1 ⟨rfl, State.Warmed39.refl s, rfl⟩ trivial
  refine ⟨n, _, h1, h2, h3, hpost _ _ _ _ _ _ ⟨Cond.after_iff.mpr rfl, Cond.after_iff.mpr (eq_i res_at (Term.int_eval (1)) rfl), trivial⟩ ⟨hq.1, hq.2.1, (hq.2.2.sift fun y hy => Or.inr (N y hy)).mono (by decide) (by decide)⟩⟩
theorem main_1_1 : Claimed_1_1 := comes_1 fun _ _ _ _ _ _ h hF => ⟨h.1, hF⟩
theorem main_1_2 : Claimed_1_2 := comes_1 fun _ _ _ _ _ _ h hF => ⟨h.2.1, hF⟩
end Jvm.Pilot.@@N@@
namespace Jvm.Pilot.@@N@@
open Jvm Jvm.ClassFile Sem Op Lib Jvm.Free Jvm.Stand Jvm.Pilot.@@N@@.Jvm.D
/-! MADE BY PROGRAM (witnessworld.py) out of the Statement's table words and the real class files: 12 classes; the members and pool entries that the words name. The judged class is class 1, her method 1. -/
namespace start1
open Jvm.ClassFile
def u (s : String) : CpInfo := .utf8 (stringToUtf16 s)
/-- a pool by its gaps: so many unusable entries, then the entry; so many at the end -/
def gap : Nat → List CpInfo → List CpInfo
  | 0, r => r
  | n + 1, r => .unusable :: gap n r
def poolList (es : List (Nat × CpInfo)) (last : Nat) : List CpInfo := es.foldr (fun e r => gap e.1 (e.2 :: r)) (gap last [])
def pool (es : List (Nat × CpInfo)) (last : Nat) : Array CpInfo := ⟨poolList es last⟩
def fileOf (pool : Array CpInfo) (this : Nat) (attrs : Array Attribute := #[]) (ms : Array MethodInfo := #[]) (fl : Nat := 33) (sup : Nat := 0) (ifs : Array Nat := #[]) (fds : Array FieldInfo := #[]) : ClassFile where
  minorVersion := 0
  majorVersion := 65
  constantPool := pool
  accessFlags := fl
  thisClass := this
  superClass := sup
  interfaces := ifs
  fields := fds
  methods := ms
  attributes := attrs
def plain (name : String) (sup : Option ClassId) : Class where
  name := name
  kind := .ordinary
  loader := none
  accessFlags := 33
  super := sup
  interfaces := #[]
  cf := none
  fields := #[]
  methods := #[]
  instanceTypes := #[]
  staticTypes := #[]
  resolved := #[]
  callSites := []
  init := .initialized
  statics := none
  mirror := none

def pool0 : Array CpInfo := pool [(5, u "<init>"), (0, u "()V"), (1, .class_ 10), (1, u "java/lang/Object")] 113

def k0m0 : Method := { name := "<init>", desc := "()V", sig := { parameters := [], returnType := none }, accessFlags := 1, code := none }
/-- java/lang/Object -/
def k0 : Class := { plain "java/lang/Object" none with
  accessFlags := 33
  interfaces := #[]
  cf := some (fileOf pool0 8 #[] #[{ accessFlags := 1, nameIndex := 5, descriptorIndex := 6, attributes := #[] }] 33 0 #[] #[])
  fields := #[]
  methods := #[k0m0]
  instanceTypes := #[]
  staticTypes := #[]
  resolved := Array.replicate 124 none
  statics := none }

def pool1 : Array CpInfo := pool [(2, .class_ 4), (1, u "java/lang/Object"), (0, u "<init>"), (0, u "()V"), (0, .fieldref 8 9), (0, .class_ 10), (0, .nameAndType 11 12), (0, u "com/example/limpet/limpet/FolderMode"), (0, u "SHARED"), (0, u "Lcom/example/limpet/limpet/FolderMode;"), (0, .fieldref 8 14), (0, .nameAndType 15 12), (0, u "EXCLUSIVE"), (0, .methodref 8 17), (0, .nameAndType 18 19), (0, u "conflictsWith"), (0, u "(Lcom/example/limpet/limpet/FolderMode;)Z"), (0, .class_ 21), (0, u "com/example/limpet/limpet/FolderModeConflictsWithPinLaw"), (2, u "law"), (0, u "(II)Z")] 3

def k1m0 : Method := { name := "<init>", desc := "()V", sig := { parameters := [], returnType := none }, accessFlags := 1, code := none }
def k1c1 : Code := { maxStack := 2, maxLocals := 9, code := code, exceptionTable := #[], attributes := #[] }
def k1m1 : Method := { name := "law", desc := "(II)Z", sig := { parameters := [.int, .int], returnType := some .boolean }, accessFlags := 9, code := some k1c1 }
/-- com/example/limpet/limpet/FolderModeConflictsWithPinLaw -/
def k1 : Class := { plain "com/example/limpet/limpet/FolderModeConflictsWithPinLaw" (some 0) with
  accessFlags := 49
  interfaces := #[]
  cf := some (fileOf pool1 20 #[] #[{ accessFlags := 1, nameIndex := 5, descriptorIndex := 6, attributes := #[] }, { accessFlags := 9, nameIndex := 24, descriptorIndex := 25, attributes := #[] }] 49 2 #[] #[])
  fields := #[]
  methods := #[k1m0, k1m1]
  instanceTypes := #[]
  staticTypes := #[]
  resolved := Array.replicate 29 none
  statics := none }

def pool2 : Array CpInfo := pool [(1, .class_ 2), (0, u "java/lang/constant/Constable"), (0, .class_ 4), (0, u "java/lang/Object")] 6

/-- java/lang/constant/Constable -/
def k2 : Class := { plain "java/lang/constant/Constable" (some 0) with
  accessFlags := 1537
  interfaces := #[]
  cf := some (fileOf pool2 1 #[] #[] 1537 3 #[] #[])
  fields := #[]
  methods := #[]
  instanceTypes := #[]
  staticTypes := #[]
  resolved := Array.replicate 11 none
  statics := none }

def pool3 : Array CpInfo := pool [(1, .class_ 2), (0, u "java/lang/Comparable"), (0, .class_ 4), (0, u "java/lang/Object")] 7

/-- java/lang/Comparable -/
def k3 : Class := { plain "java/lang/Comparable" (some 0) with
  accessFlags := 1537
  interfaces := #[]
  cf := some (fileOf pool3 1 #[] #[] 1537 3 #[] #[])
  fields := #[]
  methods := #[]
  instanceTypes := #[]
  staticTypes := #[]
  resolved := Array.replicate 12 none
  statics := none }

def pool4 : Array CpInfo := pool [(1, .class_ 2), (0, u "java/io/Serializable"), (0, .class_ 4), (0, u "java/lang/Object")] 2

/-- java/io/Serializable -/
def k4 : Class := { plain "java/io/Serializable" (some 0) with
  accessFlags := 1537
  interfaces := #[]
  cf := some (fileOf pool4 1 #[] #[] 1537 3 #[] #[])
  fields := #[]
  methods := #[]
  instanceTypes := #[]
  staticTypes := #[]
  resolved := Array.replicate 7 none
  statics := none }

def pool5 : Array CpInfo := pool [(2, .class_ 4), (1, u "java/lang/Enum"), (0, u "name"), (0, u "Ljava/lang/String;"), (2, u "ordinal"), (0, u "I"), (1, .class_ 14), (1, u "java/lang/Object"), (4, u "hash"), (86, .class_ 108), (1, u "java/lang/Enum$EnumDesc"), (2, .class_ 112), (0, u "java/lang/constant/Constable"), (0, .class_ 114), (0, u "java/lang/Comparable"), (0, .class_ 116), (0, u "java/io/Serializable")] 87

/-- java/lang/Enum -/
def k5 : Class := { plain "java/lang/Enum" (some 0) with
  accessFlags := 1057
  interfaces := #[2, 3, 4]
  cf := some (fileOf pool5 2 #[.nestMembers #[106]] #[] 1057 12 #[111, 113, 115] #[{ accessFlags := 18, nameIndex := 5, descriptorIndex := 6, attributes := #[] }, { accessFlags := 18, nameIndex := 9, descriptorIndex := 10, attributes := #[] }, { accessFlags := 2, nameIndex := 19, descriptorIndex := 10, attributes := #[] }])
  fields := #[{ name := "name", type := (.object "java/lang/String"), accessFlags := 18, slot := 0, constantValue := 0 }, { name := "ordinal", type := .int, accessFlags := 18, slot := 1, constantValue := 0 }, { name := "hash", type := .int, accessFlags := 2, slot := 2, constantValue := 0 }]
  methods := #[]
  instanceTypes := #[(.object "java/lang/String"), .int, .int]
  staticTypes := #[]
  resolved := Array.replicate 204 none
  statics := none }

def pool6 : Array CpInfo := pool [(1, .class_ 2), (0, u "com/example/limpet/limpet/FolderMode"), (0, .fieldref 1 4), (0, .nameAndType 5 6), (0, u "EXCLUSIVE"), (0, u "Lcom/example/limpet/limpet/FolderMode;"), (2, u "SHARED"), (2, u "$VALUES"), (0, u "[Lcom/example/limpet/limpet/FolderMode;"), (6, .class_ 22), (1, u "java/lang/Enum"), (20, u "conflictsWith"), (0, u "(Lcom/example/limpet/limpet/FolderMode;)Z")] 5

def k6c0 : Code := { maxStack := 2, maxLocals := 2, code := prog_2_method_4_code, exceptionTable := #[], attributes := #[] }
def k6m0 : Method := { name := "conflictsWith", desc := "(Lcom/example/limpet/limpet/FolderMode;)Z", sig := { parameters := [(.object "com/example/limpet/limpet/FolderMode")], returnType := some .boolean }, accessFlags := 0, code := some k6c0 }
/-- com/example/limpet/limpet/FolderMode -/
def k6 : Class := { plain "com/example/limpet/limpet/FolderMode" (some 5) with
  accessFlags := 16433
  interfaces := #[]
  cf := some (fileOf pool6 1 #[] #[{ accessFlags := 0, nameIndex := 43, descriptorIndex := 44, attributes := #[] }] 16433 20 #[] #[{ accessFlags := 16409, nameIndex := 5, descriptorIndex := 6, attributes := #[] }, { accessFlags := 16409, nameIndex := 9, descriptorIndex := 6, attributes := #[] }, { accessFlags := 4122, nameIndex := 12, descriptorIndex := 13, attributes := #[] }])
  fields := #[{ name := "EXCLUSIVE", type := (.object "com/example/limpet/limpet/FolderMode"), accessFlags := 16409, slot := 0, constantValue := 0 }, { name := "SHARED", type := (.object "com/example/limpet/limpet/FolderMode"), accessFlags := 16409, slot := 1, constantValue := 0 }, { name := "$VALUES", type := (.array (.object "com/example/limpet/limpet/FolderMode")), accessFlags := 4122, slot := 2, constantValue := 0 }]
  methods := #[k6m0]
  instanceTypes := #[(.object "java/lang/String"), .int, .int]
  staticTypes := #[(.object "com/example/limpet/limpet/FolderMode"), (.object "com/example/limpet/limpet/FolderMode"), (.array (.object "com/example/limpet/limpet/FolderMode"))]
  resolved := Array.replicate 50 none
  statics := some 0 }

def pool7 : Array CpInfo := pool [(1, u "java/lang/Cloneable"), (0, .class_ 1), (0, u "java/lang/Object"), (0, .class_ 3)] 3

/-- java/lang/Cloneable -/
def k7 : Class := { plain "java/lang/Cloneable" (some 0) with
  accessFlags := 1537
  interfaces := #[]
  cf := some (fileOf pool7 2 #[] #[] 1537 4 #[] #[])
  fields := #[]
  methods := #[]
  instanceTypes := #[]
  staticTypes := #[]
  resolved := Array.replicate 8 none
  statics := none }

/-- the primitive byte -/
def k8 : Class := { plain "byte" none with kind := .primitive 'B', accessFlags := 0x411 }
/-- [B -/
def k9 : Class := { plain "[B" (some 0) with kind := .array 8 .byte, interfaces := #[7, 4], accessFlags := 1041 }

/-- the primitive int -/
def k10 : Class := { plain "int" none with kind := .primitive 'I', accessFlags := 0x411 }
/-- [I -/
def k11 : Class := { plain "[I" (some 0) with kind := .array 10 .int, interfaces := #[7, 4], accessFlags := 1041 }

def heap : Heap := #[{ cls := 6, slots := #[.ref 1, .ref 2, .null], vm := .statics 6 },
  { cls := 6, slots := #[.null, .int 0, .int 0], vm := .none },
  { cls := 6, slots := #[.null, .int 1, .int 0], vm := .none }]
def classes : Array Class := #[k0, k1, k2, k3, k4, k5, k6, k7, k8, k9, k10, k11]
def interned : List (Array UInt16 × Addr) := []
def slotsUsed : Nat := 9
def theMethod : MethodId := ⟨1, 1⟩
def args0 : Array Value := #[.int 5, .int 6]
def aboutOver (below : List Frame) : State where
  vm := { classes := classes, interned := interned.toArray }
  heap := heap
  slotsUsed := slotsUsed
  threads := #[{ frames := .invoking theMethod args0 :: below }]
def below0 : List Frame := [.native { method := ⟨0, 0⟩, args := #[] }]
def about1 : State := aboutOver below0
def p0 : Program := .bare "" "" ""
def e0 : Env := launch0.env 0 0 0
theorem w_frames : about1.frames = Frame.invoking theMethod args0 :: below0 := rfl
set_option maxRecDepth 65536 in
theorem w_args : argsFit about1.vm theMethod args0 = true := by decide +kernel
set_option maxRecDepth 65536 in
theorem w_heap : heapFits about1 = true := by decide +kernel
set_option maxRecDepth 65536 in
theorem w_runnable : about1.curStatus? = some .runnable := by decide +kernel
set_option maxRecDepth 65536 in
theorem w_alone : about1.alone = true := by decide +kernel
set_option maxRecDepth 65536 in
theorem w_named : about1.methodNamed? x = some theMethod := by decide +kernel
set_option maxRecDepth 65536 in
theorem w_hears : about1.hears theMethod below0 = true := by decide +kernel
set_option maxRecDepth 65536 in
theorem w_ripe : about1.ripe theMethod args0 below0 = true := by decide +kernel
theorem w_running : about1.status = .running := rfl
set_option maxRecDepth 65536 in
theorem w_room : about1.hasRoom e0.platform room_1 = true :=
  launch0.hasRoom_least _ room_1 (by decide +kernel) (by decide +kernel) (by decide +kernel) (by decide +kernel) (by decide +kernel) (by decide +kernel)
theorem allAtoms_all (ts : List Jvm.Cond) (a : Array Jvm.Value) (st : Jvm.State) : (allAtoms ts).before a st = ts.all (fun c => c.before a st) := by
  induction ts with
  | nil => rfl
  | cons c t ih =>
    show (Jvm.Cond.and c (allAtoms t)).before a st = _
    rw [Jvm.Cond.before_and, ih, List.all_cons]
def words1 : List Jvm.Cond := Jvm.Cond.code x code maxLocals ret :: tables_1
/-- a 'code' word, met by the world's own term for the bytes: nothing is compared byte by byte -/
theorem code_word {y : MethodName} {bytes : ByteArray} {mx : Nat} {rt : Option FieldType} {a : Array Value} {s : State} {m : MethodId} {meth : Method} {c : Code} (h1 : s.methodNamed? y = some m) (h2 : s.vm.method? m = some meth) (h3 : meth.code = some c) (h4 : c.code = bytes)
    (h5 : (c.maxLocals == mx && c.exceptionTable.isEmpty && decide (c.maxStack ≤ mostOperands) && decide (meth.sig.returnType = rt) && !meth.locks && decide (parseMethodDescriptor y.desc = some meth.sig)) = true) : (Jvm.Cond.code y bytes mx rt).before a s = true := by
  simp only [Bool.and_eq_true, beq_iff_eq, Bool.not_eq_true', decide_eq_true_eq] at h5
  obtain ⟨⟨⟨⟨⟨g1, g2⟩, g3⟩, g4⟩, g5⟩, g6⟩ := h5
  simp [Cond.before, Cond.holds, Cond.value, h1, h2, h3, h4, g1, g2, g3, g4, g5, g6]
def isCode : Jvm.Cond → Bool
  | .code _ _ _ _ => true
  | _ => false
theorem all_split {L : List Jvm.Cond} {P : Jvm.Cond → Bool} (h1 : L.all (fun c => isCode c || P c) = true) (h2 : ∀ c ∈ L.filter isCode, P c = true) : L.all P = true := by
  refine List.all_eq_true.mpr fun c hc => ?_
  have h := List.all_eq_true.mp h1 c hc
  rcases Bool.eq_false_or_eq_true (isCode c) with hi | hi
  · exact h2 c (List.mem_filter.mpr ⟨hc, hi⟩)
  · simpa [hi] using h
set_option maxRecDepth 65536 in
theorem w_c0 : (Jvm.Cond.code x code maxLocals ret).before args0 about1 = true := code_word (m := ⟨1, 1⟩) (meth := k1m1) (c := k1c1) (by decide +kernel) rfl rfl rfl (by decide +kernel)
set_option maxRecDepth 65536 in
theorem w_c1 : (Jvm.Cond.code ({ cls := "com/example/limpet/limpet/FolderMode", name := "conflictsWith", desc := "(Lcom/example/limpet/limpet/FolderMode;)Z" } : Jvm.MethodName) prog_2_method_4_code (2 : Nat) (Option.some Jvm.ClassFile.FieldType.boolean)).before args0 about1 = true := code_word (m := ⟨6, 0⟩) (meth := k6m0) (c := k6c0) (by decide +kernel) rfl rfl rfl (by decide +kernel)
def codes1 : List Jvm.Cond := [Jvm.Cond.code x code maxLocals ret, Jvm.Cond.code ({ cls := "com/example/limpet/limpet/FolderMode", name := "conflictsWith", desc := "(Lcom/example/limpet/limpet/FolderMode;)Z" } : Jvm.MethodName) prog_2_method_4_code (2 : Nat) (Option.some Jvm.ClassFile.FieldType.boolean)]
set_option maxRecDepth 65536 in
theorem codes_eq : words1.filter isCode = codes1 := rfl
theorem w_codes : ∀ c ∈ words1.filter isCode, c.before args0 about1 = true := by
  rw [codes_eq]
  intro c hc
  simp only [codes1, List.mem_cons, List.not_mem_nil, or_false] at hc
  rcases hc with rfl | rfl
  · exact w_c0
  · exact w_c1
set_option maxRecDepth 65536 in
theorem w_t1 : words1.all (fun c => isCode c || c.before args0 about1) = true := by decide +kernel
theorem w_tables : (allAtoms (Jvm.Cond.code x code maxLocals ret :: tables_1)).before args0 about1 = true := by
  rw [allAtoms_all]
  show words1.all (fun c => c.before args0 about1) = true
  refine all_split ?_ w_codes
  rw [w_t1]
set_option maxRecDepth 65536 in
theorem w_case : (Jvm.Cond.and given_1 narrow_1).before args0 about1 = true := by decide +kernel
theorem w_applies : (headSpec (Jvm.Cond.code x code maxLocals ret :: tables_1) room_1).applies x e0.platform about1 = true :=
  (Spec.applies_iff w_frames).mpr ⟨w_running, w_runnable, w_alone, w_named, w_hears, w_ripe, w_room, w_tables⟩
theorem atStart : AtStart classFile x code maxLocals ret World_1 tables_1 room_1 Calls_1 rest_1 Pre_1 launch0 p0 e0 about1 theMethod args0 below0 :=
  ⟨lists_1, trivial, launch0.admits_env _ _ _, launch0.least_env, fairChoices_fair.cas, fairChoices_fair.clock, w_frames, w_args, w_heap, w_applies, trivial, trivial, w_case⟩
end start1
theorem witness_1 : WitnessClaimed_1 := ⟨start1.p0, start1.e0, start1.about1, start1.theMethod, start1.args0, start1.below0, start1.atStart⟩
end Jvm.Pilot.@@N@@
