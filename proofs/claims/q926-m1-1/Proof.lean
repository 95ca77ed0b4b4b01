import JvmDerived
import JvmDerived.Pilot.@@N@@Statement
import JvmDerived.Pilot.@@N@@Code
set_option linter.unusedVariables false
set_option linter.unusedSimpArgs false
namespace Jvm.RoadKit
open Sem ClassFile Op Lib Jvm.Stand Jvm.Free Jvm.LawKit
section OwnKit
variable {p : Program} {l : Launch} {e : Env} {R : Room} {s : State} {m : MethodId} {args : Array Value} {below : List Frame} {meth : Method} {c : Code} {T : State} {locs : List Loc} {cells slots : Nat}
def EndsQ (tb : Tables) (e : Env) (below : List Frame) (s : State) (Qv : Option Value → Heap → List Loc → Prop) (rc rs : Nat) (st : State) : Prop :=
  ∃ s₂ o, Steps tb e below st s₂ ∧ s₂.status = .running ∧ Ended s₂ below o ∧ ∃ v L, o = .returned v ∧ Qv v s₂.heap L ∧ FrameEnd s o s₂ L rc rs
theorem EndsQ.go {tb : Tables} {Qv : Option Value → Heap → List Loc → Prop} {rc rs : Nat} {a b : State} (k : ∀ t, Steps tb e below b t → Steps tb e below a t) (h : EndsQ tb e below s Qv rc rs b) : EndsQ tb e below s Qv rc rs a := by
  obtain ⟨s₂, o, h1, h2⟩ := h
  exact ⟨s₂, o, k _ h1, h2⟩
theorem EndsQ.out (X : Stand p l e R s m args below meth c T locs cells slots) (hlk : meth.locks = false) {Qv : Option Value → Heap → List Loc → Prop} {rc rs : Nat} {v : Option Value} {st : State} (hv : meth.sig.returnType = none → v = none)
    (hs : ∀ fs, (∀ (f : JFrame) (acts : List Action), f.method = m → f.locked = none → f.entered = [] → (doReturn e (T.setTop f) acts v).1 = T.setFrames fs) → Steps p.tables e below st (T.setFrames fs))
    (h1 : cells ≤ rc) (h2 : slots ≤ rs) (hq : Qv v T.heap locs) : EndsQ p.tables e below s Qv rc rs st := by
  obtain ⟨fs, hr, hrun, hended, hW, hsame⟩ := X.leave (v := v) hv hlk
  exact ⟨_, _, hs fs hr, hrun, hended, _, _, rfl, hq, ⟨_, rfl⟩, hW, hsame.mono h1 h2⟩
theorem EndsQ.retI (X : Stand p l e R s m args below meth c T locs cells slots) (hx : p.tables.exec = Jvm.exec) (hlk : meth.locks = false) {Qv : Option Value → Heap → List Loc → Prop} {rc rs pc : Nat} {Ls : Array Slot} {z : Int32} {rest : List Value} (hret : meth.sig.returnType = some .int) (hd : decode c.code pc = .ok (.ireturn, 1))
    (h1 : cells ≤ rc) (h2 : slots ≤ rs) (hq : Qv (some (.int z)) T.heap locs) : EndsQ p.tables e below s Qv rc rs (T.setTop (mkF m pc Ls (.int z :: rest))) := by
  refine EndsQ.out X hlk (v := some (.int z)) (fun h => by rw [hret] at h; cases h) (fun fs hr => ?_) h1 h2 hq
  exact retOut X hx hret rfl (Or.inl ⟨rfl, Or.inl rfl, z, rfl⟩) hd hr
theorem EndsQ.retJ (X : Stand p l e R s m args below meth c T locs cells slots) (hx : p.tables.exec = Jvm.exec) (hlk : meth.locks = false) {Qv : Option Value → Heap → List Loc → Prop} {rc rs pc : Nat} {Ls : Array Slot} {z : Int64} {rest : List Value} (hret : meth.sig.returnType = some .long) (hd : decode c.code pc = .ok (.lreturn, 1))
    (h1 : cells ≤ rc) (h2 : slots ≤ rs) (hq : Qv (some (.long z)) T.heap locs) : EndsQ p.tables e below s Qv rc rs (T.setTop (mkF m pc Ls (.long z :: rest))) := by
  refine EndsQ.out X hlk (v := some (.long z)) (fun h => by rw [hret] at h; cases h) (fun fs hr => ?_) h1 h2 hq
  exact retOut X hx hret rfl (Or.inr (Or.inl ⟨rfl, rfl, z, rfl⟩)) hd hr
theorem EndsQ.retA (X : Stand p l e R s m args below meth c T locs cells slots) (hx : p.tables.exec = Jvm.exec) (hlk : meth.locks = false) {Qv : Option Value → Heap → List Loc → Prop} {rc rs pc : Nat} {Ls : Array Slot} {w : Value} {t : FieldType} {rest : List Value} (hret : meth.sig.returnType = some t) (ht : t.isReference = true) (hw : w.isRef = true) (hn : narrow t w = w) (hd : decode c.code pc = .ok (.areturn, 1))
    (h1 : cells ≤ rc) (h2 : slots ≤ rs) (hq : Qv (some w) T.heap locs) : EndsQ p.tables e below s Qv rc rs (T.setTop (mkF m pc Ls (w :: rest))) := by
  refine EndsQ.out X hlk (v := some w) (fun h => by rw [hret] at h; cases h) (fun fs hr => ?_) h1 h2 hq
  exact retOut X hx hret hn (Or.inr (Or.inr (Or.inr (Or.inr ⟨rfl, ht, hw⟩)))) hd hr
theorem EndsQ.retN (X : Stand p l e R s m args below meth c T locs cells slots) (hx : p.tables.exec = Jvm.exec) (hlk : meth.locks = false) {Qv : Option Value → Heap → List Loc → Prop} {rc rs pc : Nat} {Ls : Array Slot} {z : Int32} {t : FieldType} {rest : List Value} (hret : meth.sig.returnType = some t) (ht : t = .boolean ∨ t = .byte ∨ t = .char ∨ t = .short) (hd : decode c.code pc = .ok (.ireturn, 1))
    (h1 : cells ≤ rc) (h2 : slots ≤ rs) (hq : Qv (some (.int (nar t z))) T.heap locs) : EndsQ p.tables e below s Qv rc rs (T.setTop (mkF m pc Ls (.int z :: rest))) := by
  refine EndsQ.out X hlk (v := some (.int (nar t z))) (fun h => by rw [hret] at h; cases h) (fun fs hr => ?_) h1 h2 hq
  exact Jvm.RoadKit.retN X hx hret ht hd hr
theorem EndsQ.retV (X : Stand p l e R s m args below meth c T locs cells slots) (hx : p.tables.exec = Jvm.exec) (hlk : meth.locks = false) {Qv : Option Value → Heap → List Loc → Prop} {rc rs pc : Nat} {Ls : Array Slot} (hret : meth.sig.returnType = none) (hd : decode c.code pc = .ok (.return_, 1))
    (h1 : cells ≤ rc) (h2 : slots ≤ rs) (hq : Qv none T.heap locs) : EndsQ p.tables e below s Qv rc rs (T.setTop (mkF m pc Ls [])) := by
  refine EndsQ.out X hlk (v := none) (fun _ => rfl) (fun fs hr => ?_) h1 h2 hq
  exact X.returnOut hx hret hd hr
end OwnKit
end Jvm.RoadKit
namespace Jvm.Pilot.@@N@@
open Jvm Jvm.ClassFile Sem Op Lib Jvm.Free Jvm.Stand Jvm.LawKit Jvm.RoadKit Bundle Jvm.Pilot.@@N@@.Jvm.D

theorem own_eqI {args : Array Value} {first s : State} {o : Option Outcome} {idx : List Nat} {t : Term} {k : Int32} (h : (Cond.eq t (.int k)).value args first o s idx = some true) : t.eval args first o idx s = some (.int k) := by
  simp only [Cond.value, Term.eval] at h; cases ht : t.eval args first o idx s with | none => simp [ht] at h | some x => cases x <;> simp [ht] at h ⊢; exact h
theorem own_arr {args : Array Value} {s : State} {t : Term} {ty : FieldType} {a : Addr} {z : Int32} (h : (Cond.arrayOf t ty).value args s none s [] = some true) (ev : t.eval args s none [] s = some (.ref a)) (hl : (Cond.eq (.length t) (.int z)).value args s none s [] = some true) :
    ∃ cl, Arr s s.heap a cl ty ∧ cl.slots.size < 2 ^ 31 ∧ cl.slots.size.toInt32 = z := by
  obtain ⟨cl, A⟩ := Jvm.RoadKit.Arr.start ev h
  obtain ⟨b, cell, e1, e2, e3, e4⟩ := Jvm.Lib.length_spec (own_eqI hl)
  cases ev.symm.trans e1
  cases A.1.symm.trans (Jvm.Lib.arrayAt_spec e2).1
  exact ⟨cl, A, e3, (Value.int.inj e4).symm⟩
theorem own_eqR {args : Array Value} {first s : State} {o : Option Outcome} {idx : List Nat} {t u : Term} {a : Addr} (h : (Cond.eq t u).value args first o s idx = some true) (hu : u.eval args first o idx s = some (.ref a)) : t.eval args first o idx s = some (.ref a) := by
  simp only [Cond.value, hu] at h; cases ht : t.eval args first o idx s with | none => simp [ht] at h | some x => cases x <;> simp [ht] at h ⊢; exact h

def own_of (p : Int32) (a_LOGIN a_ACCEPTED a_REFUSED a_MESSAGE a_LOGOUT a_VIEW a_RESYNC : Addr) : Value := if (1 : Int32) = p then .ref a_LOGIN else if (2 : Int32) = p then .ref a_ACCEPTED else if (3 : Int32) = p then .ref a_REFUSED else if (4 : Int32) = p then .ref a_MESSAGE else if (5 : Int32) = p then .ref a_LOGOUT else if (6 : Int32) = p then .ref a_VIEW else if (7 : Int32) = p then .ref a_RESYNC else .null
def own_exp (p : Int32) (a_LOGIN a_ACCEPTED a_REFUSED a_MESSAGE a_LOGOUT a_VIEW a_RESYNC : Addr) : Value := if p = (1 : Int32) then .ref a_LOGIN else if p = (2 : Int32) then .ref a_ACCEPTED else if p = (3 : Int32) then .ref a_REFUSED else if p = (4 : Int32) then .ref a_MESSAGE else if p = (5 : Int32) then .ref a_LOGOUT else if p = (6 : Int32) then .ref a_VIEW else if p = (7 : Int32) then .ref a_RESYNC else .null
theorem own_same (p : Int32) (a_LOGIN a_ACCEPTED a_REFUSED a_MESSAGE a_LOGOUT a_VIEW a_RESYNC : Addr) : own_of p a_LOGIN a_ACCEPTED a_REFUSED a_MESSAGE a_LOGOUT a_VIEW a_RESYNC = own_exp p a_LOGIN a_ACCEPTED a_REFUSED a_MESSAGE a_LOGOUT a_VIEW a_RESYNC := by
  unfold own_of own_exp
  simp only [eq_comm (a := p)]
theorem own_isref (p : Int32) (a_LOGIN a_ACCEPTED a_REFUSED a_MESSAGE a_LOGOUT a_VIEW a_RESYNC : Addr) : (own_exp p a_LOGIN a_ACCEPTED a_REFUSED a_MESSAGE a_LOGOUT a_VIEW a_RESYNC).isRef = true := by
  unfold own_exp
  repeat (split; · rfl)
  rfl
theorem own_rc (p : Int32) (a_LOGIN a_ACCEPTED a_REFUSED a_MESSAGE a_LOGOUT a_VIEW a_RESYNC : Addr) : own_of p a_LOGIN a_ACCEPTED a_REFUSED a_MESSAGE a_LOGOUT a_VIEW a_RESYNC = .null ∨ ∃ x, own_of p a_LOGIN a_ACCEPTED a_REFUSED a_MESSAGE a_LOGOUT a_VIEW a_RESYNC = .ref x := ref_cases (by rw [own_same]; exact own_isref _ _ _ _ _ _ _ _)
theorem own_isref' (p : Int32) (a_LOGIN a_ACCEPTED a_REFUSED a_MESSAGE a_LOGOUT a_VIEW a_RESYNC : Addr) : (own_of p a_LOGIN a_ACCEPTED a_REFUSED a_MESSAGE a_LOGOUT a_VIEW a_RESYNC).isRef = true := by rw [own_same]; exact own_isref _ _ _ _ _ _ _ _
theorem d1_0 : decode prog_34_method_4_code 0 = .ok (.getstatic 52, 3) := by decide +kernel
theorem d1_3 : decode prog_34_method_4_code 3 = .ok (.astore_n 1, 1) := by decide +kernel
theorem d1_4 : decode prog_34_method_4_code 4 = .ok (.aload_n 1, 1) := by decide +kernel
theorem d1_5 : decode prog_34_method_4_code 5 = .ok (.arraylength, 1) := by decide +kernel
theorem d1_6 : decode prog_34_method_4_code 6 = .ok (.istore_n 2, 1) := by decide +kernel
theorem d1_7 : decode prog_34_method_4_code 7 = .ok (.iconst 0, 1) := by decide +kernel
theorem d1_8 : decode prog_34_method_4_code 8 = .ok (.istore_n 3, 1) := by decide +kernel
theorem d1_9 : decode prog_34_method_4_code 9 = .ok (.iload_n 3, 1) := by decide +kernel
theorem d1_10 : decode prog_34_method_4_code 10 = .ok (.iload_n 2, 1) := by decide +kernel
theorem d1_11 : decode prog_34_method_4_code 11 = .ok (.if_icmp .ge 26, 3) := by decide +kernel
theorem d1_14 : decode prog_34_method_4_code 14 = .ok (.aload_n 1, 1) := by decide +kernel
theorem d1_15 : decode prog_34_method_4_code 15 = .ok (.iload_n 3, 1) := by decide +kernel
theorem d1_16 : decode prog_34_method_4_code 16 = .ok (.aaload, 1) := by decide +kernel
theorem d1_17 : decode prog_34_method_4_code 17 = .ok (.astore 4, 2) := by decide +kernel
theorem d1_19 : decode prog_34_method_4_code 19 = .ok (.aload 4, 2) := by decide +kernel
theorem d1_21 : decode prog_34_method_4_code 21 = .ok (.getfield 44, 3) := by decide +kernel
theorem d1_24 : decode prog_34_method_4_code 24 = .ok (.iload_n 0, 1) := by decide +kernel
theorem d1_25 : decode prog_34_method_4_code 25 = .ok (.if_icmp .ne 6, 3) := by decide +kernel
theorem d1_28 : decode prog_34_method_4_code 28 = .ok (.aload 4, 2) := by decide +kernel
theorem d1_30 : decode prog_34_method_4_code 30 = .ok (.areturn, 1) := by decide +kernel
theorem d1_31 : decode prog_34_method_4_code 31 = .ok (.iinc 3 1, 3) := by decide +kernel
theorem d1_34 : decode prog_34_method_4_code 34 = .ok (.goto (-25), 3) := by decide +kernel
theorem d1_37 : decode prog_34_method_4_code 37 = .ok (.aconst_null, 1) := by decide +kernel
theorem d1_38 : decode prog_34_method_4_code 38 = .ok (.areturn, 1) := by decide +kernel
theorem pn_1 : plainName "moorholt/net/Frame$Kind" = true := by first | (simp [plainName, overriddenIn]; done) | decide +kernel
theorem d2_0 : decode method_2_code 0 = .ok (.iload_n 0, 1) := by decide +kernel
theorem d2_1 : decode method_2_code 1 = .ok (.iconst 1, 1) := by decide +kernel
theorem d2_2 : decode method_2_code 2 = .ok (.if_icmp .ne 7, 3) := by decide +kernel
theorem d2_5 : decode method_2_code 5 = .ok (.getstatic 7, 3) := by decide +kernel
theorem d2_8 : decode method_2_code 8 = .ok (.areturn, 1) := by decide +kernel
theorem d2_9 : decode method_2_code 9 = .ok (.iload_n 0, 1) := by decide +kernel
theorem d2_10 : decode method_2_code 10 = .ok (.iconst 2, 1) := by decide +kernel
theorem d2_11 : decode method_2_code 11 = .ok (.if_icmp .ne 7, 3) := by decide +kernel
theorem d2_14 : decode method_2_code 14 = .ok (.getstatic 13, 3) := by decide +kernel
theorem d2_17 : decode method_2_code 17 = .ok (.areturn, 1) := by decide +kernel
theorem d2_18 : decode method_2_code 18 = .ok (.iload_n 0, 1) := by decide +kernel
theorem d2_19 : decode method_2_code 19 = .ok (.iconst 3, 1) := by decide +kernel
theorem d2_20 : decode method_2_code 20 = .ok (.if_icmp .ne 7, 3) := by decide +kernel
theorem d2_23 : decode method_2_code 23 = .ok (.getstatic 16, 3) := by decide +kernel
theorem d2_26 : decode method_2_code 26 = .ok (.areturn, 1) := by decide +kernel
theorem d2_27 : decode method_2_code 27 = .ok (.iload_n 0, 1) := by decide +kernel
theorem d2_28 : decode method_2_code 28 = .ok (.iconst 4, 1) := by decide +kernel
theorem d2_29 : decode method_2_code 29 = .ok (.if_icmp .ne 7, 3) := by decide +kernel
theorem d2_32 : decode method_2_code 32 = .ok (.getstatic 19, 3) := by decide +kernel
theorem d2_35 : decode method_2_code 35 = .ok (.areturn, 1) := by decide +kernel
theorem d2_36 : decode method_2_code 36 = .ok (.iload_n 0, 1) := by decide +kernel
theorem d2_37 : decode method_2_code 37 = .ok (.iconst 5, 1) := by decide +kernel
theorem d2_38 : decode method_2_code 38 = .ok (.if_icmp .ne 7, 3) := by decide +kernel
theorem d2_41 : decode method_2_code 41 = .ok (.getstatic 22, 3) := by decide +kernel
theorem d2_44 : decode method_2_code 44 = .ok (.areturn, 1) := by decide +kernel
theorem d2_45 : decode method_2_code 45 = .ok (.iload_n 0, 1) := by decide +kernel
theorem d2_46 : decode method_2_code 46 = .ok (.bipush 6, 2) := by decide +kernel
theorem d2_48 : decode method_2_code 48 = .ok (.if_icmp .ne 7, 3) := by decide +kernel
theorem d2_51 : decode method_2_code 51 = .ok (.getstatic 25, 3) := by decide +kernel
theorem d2_54 : decode method_2_code 54 = .ok (.areturn, 1) := by decide +kernel
theorem d2_55 : decode method_2_code 55 = .ok (.iload_n 0, 1) := by decide +kernel
theorem d2_56 : decode method_2_code 56 = .ok (.bipush 7, 2) := by decide +kernel
theorem d2_58 : decode method_2_code 58 = .ok (.if_icmp .ne 7, 3) := by decide +kernel
theorem d2_61 : decode method_2_code 61 = .ok (.getstatic 28, 3) := by decide +kernel
theorem d2_64 : decode method_2_code 64 = .ok (.areturn, 1) := by decide +kernel
theorem d2_65 : decode method_2_code 65 = .ok (.aconst_null, 1) := by decide +kernel
theorem d2_66 : decode method_2_code 66 = .ok (.areturn, 1) := by decide +kernel
theorem pn_2 : plainName "moorholt/net/FrameOfPinLaw" = true := by first | (simp [plainName, overriddenIn]; done) | decide +kernel
theorem pn_0 : plainName "moorholt/net/FrameOfPinLaw" = true := by first | (simp [plainName, overriddenIn]; done) | decide +kernel
theorem pd_0 : parseMethodDescriptor "(B)Lmoorholt/net/Frame$Kind;" = some ⟨[.byte], some (.object "moorholt/net/Frame$Kind")⟩ := by decide +kernel
theorem pd_1 : parseMethodDescriptor "(I)Lmoorholt/net/Frame$Kind;" = some ⟨[.int], some (.object "moorholt/net/Frame$Kind")⟩ := by decide +kernel
theorem ef_1 (m : MethodId) (x0 : Int32) : entryFrame m #[(.int x0)] 5 = mkF m 0 #[.val (.int x0), .unset, .unset, .unset, .unset] [] := by first | (simp [entryFrame, mkF, argsToLocals, Value.category]; done) | rfl
def Q1 (Z : State) (p1 : Int32) (a_ALL : Addr) (kA : ClassId) (a_LOGIN : Addr) (a_ACCEPTED : Addr) (a_REFUSED : Addr) (a_MESSAGE : Addr) (a_LOGOUT : Addr) (a_VIEW : Addr) (a_RESYNC : Addr) (h0 : Heap) (n0 : Nat) (v : Option Value) (h : Heap) (L : List Loc) : Prop := v = some (own_of p1 a_LOGIN a_ACCEPTED a_REFUSED a_MESSAGE a_LOGOUT a_VIEW a_RESYNC) ∧ Fr n0 L ∧ h = h0
set_option maxRecDepth 65536 in
set_option maxHeartbeats 40000000 in
theorem rm1 (l : Launch) (Z : State) (a0 : Array Value) (hw : ∀ d ∈ tables_1, d.before a0 Z = true) (ws : List Jvm.Cond) (p1 : Int32) (a_ALL : Addr) (kA : ClassId) (a_LOGIN : Addr) (a_ACCEPTED : Addr) (a_REFUSED : Addr) (a_MESSAGE : Addr) (a_LOGOUT : Addr) (a_VIEW : Addr) (a_RESYNC : Addr) (h0 : Heap) (n0 : Nat) (Z0 : n0 ≤ h0.size) (S_ALL : Sta Z h0 "moorholt/net/Frame$Kind" "ALL" "[Lmoorholt/net/Frame$Kind;" (.ref a_ALL)) (V_ALL : Arv Z h0 a_ALL kA (.object "moorholt/net/Frame$Kind") (7 : Int32) [(.ref a_LOGIN), (.ref a_ACCEPTED), (.ref a_REFUSED), (.ref a_MESSAGE), (.ref a_LOGOUT), (.ref a_VIEW), (.ref a_RESYNC)] .null) (F_LOGIN_code : Fld Z h0 a_LOGIN "moorholt/net/Frame$Kind" "code" "B" (.int (1 : Int32))) (F_ACCEPTED_code : Fld Z h0 a_ACCEPTED "moorholt/net/Frame$Kind" "code" "B" (.int (2 : Int32))) (F_REFUSED_code : Fld Z h0 a_REFUSED "moorholt/net/Frame$Kind" "code" "B" (.int (3 : Int32))) (F_MESSAGE_code : Fld Z h0 a_MESSAGE "moorholt/net/Frame$Kind" "code" "B" (.int (4 : Int32))) (F_LOGOUT_code : Fld Z h0 a_LOGOUT "moorholt/net/Frame$Kind" "code" "B" (.int (5 : Int32))) (F_VIEW_code : Fld Z h0 a_VIEW "moorholt/net/Frame$Kind" "code" "B" (.int (6 : Int32))) (F_RESYNC_code : Fld Z h0 a_RESYNC "moorholt/net/Frame$Kind" "code" "B" (.int (7 : Int32))) :
    MetFree l (⟨"moorholt/net/Frame$Kind", "of", "(B)Lmoorholt/net/Frame$Kind;"⟩ : MethodName) (head1 (Jvm.Cond.code (⟨"moorholt/net/Frame$Kind", "of", "(B)Lmoorholt/net/Frame$Kind;"⟩ : MethodName) prog_34_method_4_code 5 (some (.object "moorholt/net/Frame$Kind")) :: ws) ({ frames := 0, cells := 0, slots := 0, locals := 0 } : Room)) (fun a U => a = #[(.int p1)] ∧ Z.Warmed39 U.vm ∧ U.heap = h0) (fun _ _ _ _ _ => True) (fun _ U o U' => ∃ v L, o = .returned v ∧ Q1 Z p1 a_ALL kA a_LOGIN a_ACCEPTED a_REFUSED a_MESSAGE a_LOGOUT a_VIEW a_RESYNC h0 n0 v U'.heap L ∧ FrameEnd U o U' L ({ frames := 0, cells := 0, slots := 0, locals := 0 } : Room).cells ({ frames := 0, cells := 0, slots := 0, locals := 0 } : Room).slots) := by
  refine MetFree.of_bodySF (plainFor_of_name pn_1) hisR ?_
  intro p e s m args below meth c s₁ Bd hml0 hP hK
  obtain ⟨rfl, hZ, hh⟩ := hP
  have hx := Bd.exec
  have hby := Bd.bytes
  have hml : c.maxLocals = 5 := hml0
  have hown : s.vm.findClass "moorholt/net/Frame$Kind" = some m.cls := findClass_of_methodNamed Bd.named
  have hnm := (name_of_methodNamed Bd.named Bd.method).1
  have X0 : Stand p l e ({ frames := 0, cells := 0, slots := 0, locals := 0 } : Room) s m #[(.int p1)] below meth c s₁ [] 0 0 := Stand.of_body Bd
  have e0 : s₁.heap = h0 := by rw [← hh, Bd.state]; rfl
  have N0 := Fr.nil n0
  show EndsQ p.tables e below s (fun v h L => Q1 Z p1 a_ALL kA a_LOGIN a_ACCEPTED a_REFUSED a_MESSAGE a_LOGOUT a_VIEW a_RESYNC h0 n0 v h L) ({ frames := 0, cells := 0, slots := 0, locals := 0 } : Room).cells ({ frames := 0, cells := 0, slots := 0, locals := 0 } : Room).slots _
  refine EndsQ.go (b := s₁.setTop (mkF m 0 #[.val (.int p1), .unset, .unset, .unset, .unset] [])) (fun t k => castTop (ef_1 m p1) k) ?_
  obtain ⟨T101, X101, e101, st101⟩ := getS X0 hx hZ hown (host := "") (hw _ (List.mem_of_getElem? (i := 4) rfl)) Via.refl e0 S_ALL (g := (mkF m 0 #[.val (.int p1), .unset, .unset, .unset, .unset] [])) rfl (hb hby d1_0)
  refine EndsQ.go st101 ?_
  show EndsQ _ _ _ _ _ _ _ (T101.setTop (mkF m 3 #[.val (.int p1), .unset, .unset, .unset, .unset] [(.ref a_ALL)]))
  refine EndsQ.go (b := T101.setTop (mkF m 5 #[.val (.int p1), .val (.ref a_ALL), .unset, .unset, .unset] [(.ref a_ALL)])) (fun t k => ?_) ?_
  · show Steps p.tables e below (T101.setTop (mkF m 3 #[.val (.int p1), .unset, .unset, .unset, .unset] [(.ref a_ALL)])) _
    refine XS.astoreN X101.here hx rfl (hb hby d1_3) rfl rfl (l' := #[.val (.int p1), .val (.ref a_ALL), .unset, .unset, .unset]) rfl ?_
    show Steps p.tables e below (T101.setTop (mkF m 4 #[.val (.int p1), .val (.ref a_ALL), .unset, .unset, .unset] [])) _
    refine XS.aloadN X101.here hx rfl (hb hby d1_4) rfl rfl ?_
    show Steps p.tables e below (T101.setTop (mkF m 5 #[.val (.int p1), .val (.ref a_ALL), .unset, .unset, .unset] [(.ref a_ALL)])) _
    exact k
  obtain ⟨cl102, Ar102, -, S102, M102, -, -⟩ := id V_ALL
  refine EndsQ.go (fun t k => X101.arraylength hx (by rw [e101]; exact Ar102.1) (State.isArrayOf_alike hZ.alike Ar102.2.1) (g := (mkF m 5 #[.val (.int p1), .val (.ref a_ALL), .unset, .unset, .unset] [(.ref a_ALL)])) rfl rfl (hb hby d1_5) _ k) ?_
  rw [len_of S102 M102]
  show EndsQ _ _ _ _ _ _ _ (T101.setTop (mkF m 6 #[.val (.int p1), .val (.ref a_ALL), .unset, .unset, .unset] [(.int (7 : Int32))]))
  refine EndsQ.go (b := T101.setTop (mkF m 16 #[.val (.int p1), .val (.ref a_ALL), .val (.int (7 : Int32)), .val (.int (0 : Int32)), .unset] [(.int (0 : Int32)), (.ref a_ALL)])) (fun t k => ?_) ?_
  · show Steps p.tables e below (T101.setTop (mkF m 6 #[.val (.int p1), .val (.ref a_ALL), .unset, .unset, .unset] [(.int (7 : Int32))])) _
    refine XS.istoreN X101.here hx rfl (hb hby d1_6) rfl (l' := #[.val (.int p1), .val (.ref a_ALL), .val (.int (7 : Int32)), .unset, .unset]) rfl ?_
    show Steps p.tables e below (T101.setTop (mkF m 7 #[.val (.int p1), .val (.ref a_ALL), .val (.int (7 : Int32)), .unset, .unset] [])) _
    refine XS.iconst X101.here hx rfl (hb hby d1_7) ?_
    show Steps p.tables e below (T101.setTop (mkF m 8 #[.val (.int p1), .val (.ref a_ALL), .val (.int (7 : Int32)), .unset, .unset] [(.int (0 : Int32))])) _
    refine XS.istoreN X101.here hx rfl (hb hby d1_8) rfl (l' := #[.val (.int p1), .val (.ref a_ALL), .val (.int (7 : Int32)), .val (.int (0 : Int32)), .unset]) rfl ?_
    show Steps p.tables e below (T101.setTop (mkF m 9 #[.val (.int p1), .val (.ref a_ALL), .val (.int (7 : Int32)), .val (.int (0 : Int32)), .unset] [])) _
    refine XS.iloadN X101.here hx rfl (hb hby d1_9) rfl ?_
    show Steps p.tables e below (T101.setTop (mkF m 10 #[.val (.int p1), .val (.ref a_ALL), .val (.int (7 : Int32)), .val (.int (0 : Int32)), .unset] [(.int (0 : Int32))])) _
    refine XS.iloadN X101.here hx rfl (hb hby d1_10) rfl ?_
    show Steps p.tables e below (T101.setTop (mkF m 11 #[.val (.int p1), .val (.ref a_ALL), .val (.int (7 : Int32)), .val (.int (0 : Int32)), .unset] [(.int (7 : Int32)), (.int (0 : Int32))])) _
    refine XS.icmpNo X101.here hx rfl (hb hby d1_11) rfl (tlt (by decide)).2.1 ?_
    show Steps p.tables e below (T101.setTop (mkF m 14 #[.val (.int p1), .val (.ref a_ALL), .val (.int (7 : Int32)), .val (.int (0 : Int32)), .unset] [])) _
    refine XS.aloadN X101.here hx rfl (hb hby d1_14) rfl rfl ?_
    show Steps p.tables e below (T101.setTop (mkF m 15 #[.val (.int p1), .val (.ref a_ALL), .val (.int (7 : Int32)), .val (.int (0 : Int32)), .unset] [(.ref a_ALL)])) _
    refine XS.iloadN X101.here hx rfl (hb hby d1_15) rfl ?_
    show Steps p.tables e below (T101.setTop (mkF m 16 #[.val (.int p1), .val (.ref a_ALL), .val (.int (7 : Int32)), .val (.int (0 : Int32)), .unset] [(.int (0 : Int32)), (.ref a_ALL)])) _
    exact k
  obtain ⟨cl103, Ar103, q103, S103, M103, H103, G103⟩ := id V_ALL
  have hin103 : ¬ ((0 : Int32) < 0 ∨ cl103.slots.size ≤ ((0 : Int32)).toNatClampNeg) := inb_of S103 ⟨by decide, by decide⟩
  have hat103 : cl103.slots[((0 : Int32)).toNatClampNeg]? = some (.ref a_LOGIN) := Has.at H103 hin103 rfl
  refine EndsQ.go (fun t k => X101.aaload hx (j := (0 : Int32)) (v := (.ref a_LOGIN)) (by rw [e101]; exact Ar103.1) (State.isArrayOf_alike hZ.alike Ar103.2.1) rfl Ar103.2.2 hin103 hat103 (g := (mkF m 16 #[.val (.int p1), .val (.ref a_ALL), .val (.int (7 : Int32)), .val (.int (0 : Int32)), .unset] [(.int (0 : Int32)), (.ref a_ALL)])) rfl rfl (hb hby d1_16) _ k) ?_
  show EndsQ _ _ _ _ _ _ _ (T101.setTop (mkF m 17 #[.val (.int p1), .val (.ref a_ALL), .val (.int (7 : Int32)), .val (.int (0 : Int32)), .unset] [(.ref a_LOGIN)]))
  refine EndsQ.go (b := T101.setTop (mkF m 21 #[.val (.int p1), .val (.ref a_ALL), .val (.int (7 : Int32)), .val (.int (0 : Int32)), .val (.ref a_LOGIN)] [(.ref a_LOGIN)])) (fun t k => ?_) ?_
  · show Steps p.tables e below (T101.setTop (mkF m 17 #[.val (.int p1), .val (.ref a_ALL), .val (.int (7 : Int32)), .val (.int (0 : Int32)), .unset] [(.ref a_LOGIN)])) _
    refine XS.astore X101.here hx rfl (hb hby d1_17) rfl rfl (l' := #[.val (.int p1), .val (.ref a_ALL), .val (.int (7 : Int32)), .val (.int (0 : Int32)), .val (.ref a_LOGIN)]) rfl ?_
    show Steps p.tables e below (T101.setTop (mkF m 19 #[.val (.int p1), .val (.ref a_ALL), .val (.int (7 : Int32)), .val (.int (0 : Int32)), .val (.ref a_LOGIN)] [])) _
    refine XS.aload X101.here hx rfl (hb hby d1_19) rfl rfl ?_
    show Steps p.tables e below (T101.setTop (mkF m 21 #[.val (.int p1), .val (.ref a_ALL), .val (.int (7 : Int32)), .val (.int (0 : Int32)), .val (.ref a_LOGIN)] [(.ref a_LOGIN)])) _
    exact k
  obtain ⟨T104, X104, e104, st104⟩ := getF X101 hx hZ hown (host := "") (Or.inl (hw _ (List.mem_of_getElem? (i := 7) rfl))) Via.refl e101 F_LOGIN_code (g := (mkF m 21 #[.val (.int p1), .val (.ref a_ALL), .val (.int (7 : Int32)), .val (.int (0 : Int32)), .val (.ref a_LOGIN)] [(.ref a_LOGIN)])) rfl rfl (hb hby d1_21)
  refine EndsQ.go st104 ?_
  show EndsQ _ _ _ _ _ _ _ (T104.setTop (mkF m 24 #[.val (.int p1), .val (.ref a_ALL), .val (.int (7 : Int32)), .val (.int (0 : Int32)), .val (.ref a_LOGIN)] [(.int (1 : Int32))]))
  refine EndsQ.go (b := T104.setTop (mkF m 25 #[.val (.int p1), .val (.ref a_ALL), .val (.int (7 : Int32)), .val (.int (0 : Int32)), .val (.ref a_LOGIN)] [(.int p1), (.int (1 : Int32))])) (fun t k => ?_) ?_
  · show Steps p.tables e below (T104.setTop (mkF m 24 #[.val (.int p1), .val (.ref a_ALL), .val (.int (7 : Int32)), .val (.int (0 : Int32)), .val (.ref a_LOGIN)] [(.int (1 : Int32))])) _
    refine XS.iloadN X104.here hx rfl (hb hby d1_24) rfl ?_
    show Steps p.tables e below (T104.setTop (mkF m 25 #[.val (.int p1), .val (.ref a_ALL), .val (.int (7 : Int32)), .val (.int (0 : Int32)), .val (.ref a_LOGIN)] [(.int p1), (.int (1 : Int32))])) _
    exact k
  by_cases hc25_105 : (1 : Int32) = p1
  · refine EndsQ.go (b := T104.setTop (mkF m 28 #[.val (.int p1), .val (.ref a_ALL), .val (.int (7 : Int32)), .val (.int (0 : Int32)), .val (.ref a_LOGIN)] [])) (fun t k => ?_) ?_
    · show Steps p.tables e below (T104.setTop (mkF m 25 #[.val (.int p1), .val (.ref a_ALL), .val (.int (7 : Int32)), .val (.int (0 : Int32)), .val (.ref a_LOGIN)] [(.int p1), (.int (1 : Int32))])) _
      refine XS.icmpNo X104.here hx rfl (hb hby d1_25) rfl (teq hc25_105).2 ?_
      show Steps p.tables e below (T104.setTop (mkF m 28 #[.val (.int p1), .val (.ref a_ALL), .val (.int (7 : Int32)), .val (.int (0 : Int32)), .val (.ref a_LOGIN)] [])) _
      exact k
    refine EndsQ.go (b := T104.setTop (mkF m 30 #[.val (.int p1), .val (.ref a_ALL), .val (.int (7 : Int32)), .val (.int (0 : Int32)), .val (.ref a_LOGIN)] [(.ref a_LOGIN)])) (fun t k => ?_) ?_
    · show Steps p.tables e below (T104.setTop (mkF m 28 #[.val (.int p1), .val (.ref a_ALL), .val (.int (7 : Int32)), .val (.int (0 : Int32)), .val (.ref a_LOGIN)] [])) _
      refine XS.aload X104.here hx rfl (hb hby d1_28) rfl rfl ?_
      show Steps p.tables e below (T104.setTop (mkF m 30 #[.val (.int p1), .val (.ref a_ALL), .val (.int (7 : Int32)), .val (.int (0 : Int32)), .val (.ref a_LOGIN)] [(.ref a_LOGIN)])) _
      exact k
    refine EndsQ.retA X104 hx Bd.notSynchronized (w := (.ref a_LOGIN)) Bd.returns rfl rfl rfl (hb hby d1_30) (by decide) (by decide) ?_
    show Q1 Z p1 a_ALL kA a_LOGIN a_ACCEPTED a_REFUSED a_MESSAGE a_LOGOUT a_VIEW a_RESYNC h0 n0 (some (.ref a_LOGIN)) T104.heap _
    rw [e104]
    exact ⟨by unfold own_of; rw [if_pos hc25_105], N0, rfl⟩
  · refine EndsQ.go (b := T104.setTop (mkF m 31 #[.val (.int p1), .val (.ref a_ALL), .val (.int (7 : Int32)), .val (.int (0 : Int32)), .val (.ref a_LOGIN)] [])) (fun t k => ?_) ?_
    · show Steps p.tables e below (T104.setTop (mkF m 25 #[.val (.int p1), .val (.ref a_ALL), .val (.int (7 : Int32)), .val (.int (0 : Int32)), .val (.ref a_LOGIN)] [(.int p1), (.int (1 : Int32))])) _
      refine XS.icmpYes X104.here hx rfl (pc0 := 25) (pc' := 31) rfl (hb hby d1_25) rfl (feq hc25_105).2 (by decide) (by decide) ?_
      show Steps p.tables e below (T104.setTop (mkF m 31 #[.val (.int p1), .val (.ref a_ALL), .val (.int (7 : Int32)), .val (.int (0 : Int32)), .val (.ref a_LOGIN)] [])) _
      exact k
    refine EndsQ.go (b := T104.setTop (mkF m 16 #[.val (.int p1), .val (.ref a_ALL), .val (.int (7 : Int32)), .val (.int (1 : Int32)), .val (.ref a_LOGIN)] [(.int (1 : Int32)), (.ref a_ALL)])) (fun t k => ?_) ?_
    · show Steps p.tables e below (T104.setTop (mkF m 31 #[.val (.int p1), .val (.ref a_ALL), .val (.int (7 : Int32)), .val (.int (0 : Int32)), .val (.ref a_LOGIN)] [])) _
      refine XS.iinc X104.here hx rfl (hb hby d1_31) rfl (l' := #[.val (.int p1), .val (.ref a_ALL), .val (.int (7 : Int32)), .val (.int ((0 : Int32) + Int32.ofInt 1)), .val (.ref a_LOGIN)]) rfl ?_
      show Steps p.tables e below (T104.setTop (mkF m 34 #[.val (.int p1), .val (.ref a_ALL), .val (.int (7 : Int32)), .val (.int ((0 : Int32) + Int32.ofInt 1)), .val (.ref a_LOGIN)] [])) _
      rw [(by decide : ((0 : Int32) + Int32.ofInt 1) = (1 : Int32))]
      show Steps p.tables e below (T104.setTop (mkF m 34 #[.val (.int p1), .val (.ref a_ALL), .val (.int (7 : Int32)), .val (.int (1 : Int32)), .val (.ref a_LOGIN)] [])) _
      refine XS.goto X104.here hx rfl (pc0 := 34) (pc' := 9) rfl (hb hby d1_34) (by decide) (by decide) ?_
      show Steps p.tables e below (T104.setTop (mkF m 9 #[.val (.int p1), .val (.ref a_ALL), .val (.int (7 : Int32)), .val (.int (1 : Int32)), .val (.ref a_LOGIN)] [])) _
      refine XS.iloadN X104.here hx rfl (hb hby d1_9) rfl ?_
      show Steps p.tables e below (T104.setTop (mkF m 10 #[.val (.int p1), .val (.ref a_ALL), .val (.int (7 : Int32)), .val (.int (1 : Int32)), .val (.ref a_LOGIN)] [(.int (1 : Int32))])) _
      refine XS.iloadN X104.here hx rfl (hb hby d1_10) rfl ?_
      show Steps p.tables e below (T104.setTop (mkF m 11 #[.val (.int p1), .val (.ref a_ALL), .val (.int (7 : Int32)), .val (.int (1 : Int32)), .val (.ref a_LOGIN)] [(.int (7 : Int32)), (.int (1 : Int32))])) _
      refine XS.icmpNo X104.here hx rfl (hb hby d1_11) rfl (tlt (by decide)).2.1 ?_
      show Steps p.tables e below (T104.setTop (mkF m 14 #[.val (.int p1), .val (.ref a_ALL), .val (.int (7 : Int32)), .val (.int (1 : Int32)), .val (.ref a_LOGIN)] [])) _
      refine XS.aloadN X104.here hx rfl (hb hby d1_14) rfl rfl ?_
      show Steps p.tables e below (T104.setTop (mkF m 15 #[.val (.int p1), .val (.ref a_ALL), .val (.int (7 : Int32)), .val (.int (1 : Int32)), .val (.ref a_LOGIN)] [(.ref a_ALL)])) _
      refine XS.iloadN X104.here hx rfl (hb hby d1_15) rfl ?_
      show Steps p.tables e below (T104.setTop (mkF m 16 #[.val (.int p1), .val (.ref a_ALL), .val (.int (7 : Int32)), .val (.int (1 : Int32)), .val (.ref a_LOGIN)] [(.int (1 : Int32)), (.ref a_ALL)])) _
      exact k
    obtain ⟨cl106, Ar106, q106, S106, M106, H106, G106⟩ := id V_ALL
    have hin106 : ¬ ((1 : Int32) < 0 ∨ cl106.slots.size ≤ ((1 : Int32)).toNatClampNeg) := inb_of S106 ⟨by decide, by decide⟩
    have hat106 : cl106.slots[((1 : Int32)).toNatClampNeg]? = some (.ref a_ACCEPTED) := Has.at H106 hin106 rfl
    refine EndsQ.go (fun t k => X104.aaload hx (j := (1 : Int32)) (v := (.ref a_ACCEPTED)) (by rw [e104]; exact Ar106.1) (State.isArrayOf_alike hZ.alike Ar106.2.1) rfl Ar106.2.2 hin106 hat106 (g := (mkF m 16 #[.val (.int p1), .val (.ref a_ALL), .val (.int (7 : Int32)), .val (.int (1 : Int32)), .val (.ref a_LOGIN)] [(.int (1 : Int32)), (.ref a_ALL)])) rfl rfl (hb hby d1_16) _ k) ?_
    show EndsQ _ _ _ _ _ _ _ (T104.setTop (mkF m 17 #[.val (.int p1), .val (.ref a_ALL), .val (.int (7 : Int32)), .val (.int (1 : Int32)), .val (.ref a_LOGIN)] [(.ref a_ACCEPTED)]))
    refine EndsQ.go (b := T104.setTop (mkF m 21 #[.val (.int p1), .val (.ref a_ALL), .val (.int (7 : Int32)), .val (.int (1 : Int32)), .val (.ref a_ACCEPTED)] [(.ref a_ACCEPTED)])) (fun t k => ?_) ?_
    · show Steps p.tables e below (T104.setTop (mkF m 17 #[.val (.int p1), .val (.ref a_ALL), .val (.int (7 : Int32)), .val (.int (1 : Int32)), .val (.ref a_LOGIN)] [(.ref a_ACCEPTED)])) _
      refine XS.astore X104.here hx rfl (hb hby d1_17) rfl rfl (l' := #[.val (.int p1), .val (.ref a_ALL), .val (.int (7 : Int32)), .val (.int (1 : Int32)), .val (.ref a_ACCEPTED)]) rfl ?_
      show Steps p.tables e below (T104.setTop (mkF m 19 #[.val (.int p1), .val (.ref a_ALL), .val (.int (7 : Int32)), .val (.int (1 : Int32)), .val (.ref a_ACCEPTED)] [])) _
      refine XS.aload X104.here hx rfl (hb hby d1_19) rfl rfl ?_
      show Steps p.tables e below (T104.setTop (mkF m 21 #[.val (.int p1), .val (.ref a_ALL), .val (.int (7 : Int32)), .val (.int (1 : Int32)), .val (.ref a_ACCEPTED)] [(.ref a_ACCEPTED)])) _
      exact k
    obtain ⟨T107, X107, e107, st107⟩ := getF X104 hx hZ hown (host := "") (Or.inl (hw _ (List.mem_of_getElem? (i := 7) rfl))) Via.refl e104 F_ACCEPTED_code (g := (mkF m 21 #[.val (.int p1), .val (.ref a_ALL), .val (.int (7 : Int32)), .val (.int (1 : Int32)), .val (.ref a_ACCEPTED)] [(.ref a_ACCEPTED)])) rfl rfl (hb hby d1_21)
    refine EndsQ.go st107 ?_
    show EndsQ _ _ _ _ _ _ _ (T107.setTop (mkF m 24 #[.val (.int p1), .val (.ref a_ALL), .val (.int (7 : Int32)), .val (.int (1 : Int32)), .val (.ref a_ACCEPTED)] [(.int (2 : Int32))]))
    refine EndsQ.go (b := T107.setTop (mkF m 25 #[.val (.int p1), .val (.ref a_ALL), .val (.int (7 : Int32)), .val (.int (1 : Int32)), .val (.ref a_ACCEPTED)] [(.int p1), (.int (2 : Int32))])) (fun t k => ?_) ?_
    · show Steps p.tables e below (T107.setTop (mkF m 24 #[.val (.int p1), .val (.ref a_ALL), .val (.int (7 : Int32)), .val (.int (1 : Int32)), .val (.ref a_ACCEPTED)] [(.int (2 : Int32))])) _
      refine XS.iloadN X107.here hx rfl (hb hby d1_24) rfl ?_
      show Steps p.tables e below (T107.setTop (mkF m 25 #[.val (.int p1), .val (.ref a_ALL), .val (.int (7 : Int32)), .val (.int (1 : Int32)), .val (.ref a_ACCEPTED)] [(.int p1), (.int (2 : Int32))])) _
      exact k
    by_cases hc25_108 : (2 : Int32) = p1
    · refine EndsQ.go (b := T107.setTop (mkF m 28 #[.val (.int p1), .val (.ref a_ALL), .val (.int (7 : Int32)), .val (.int (1 : Int32)), .val (.ref a_ACCEPTED)] [])) (fun t k => ?_) ?_
      · show Steps p.tables e below (T107.setTop (mkF m 25 #[.val (.int p1), .val (.ref a_ALL), .val (.int (7 : Int32)), .val (.int (1 : Int32)), .val (.ref a_ACCEPTED)] [(.int p1), (.int (2 : Int32))])) _
        refine XS.icmpNo X107.here hx rfl (hb hby d1_25) rfl (teq hc25_108).2 ?_
        show Steps p.tables e below (T107.setTop (mkF m 28 #[.val (.int p1), .val (.ref a_ALL), .val (.int (7 : Int32)), .val (.int (1 : Int32)), .val (.ref a_ACCEPTED)] [])) _
        exact k
      refine EndsQ.go (b := T107.setTop (mkF m 30 #[.val (.int p1), .val (.ref a_ALL), .val (.int (7 : Int32)), .val (.int (1 : Int32)), .val (.ref a_ACCEPTED)] [(.ref a_ACCEPTED)])) (fun t k => ?_) ?_
      · show Steps p.tables e below (T107.setTop (mkF m 28 #[.val (.int p1), .val (.ref a_ALL), .val (.int (7 : Int32)), .val (.int (1 : Int32)), .val (.ref a_ACCEPTED)] [])) _
        refine XS.aload X107.here hx rfl (hb hby d1_28) rfl rfl ?_
        show Steps p.tables e below (T107.setTop (mkF m 30 #[.val (.int p1), .val (.ref a_ALL), .val (.int (7 : Int32)), .val (.int (1 : Int32)), .val (.ref a_ACCEPTED)] [(.ref a_ACCEPTED)])) _
        exact k
      refine EndsQ.retA X107 hx Bd.notSynchronized (w := (.ref a_ACCEPTED)) Bd.returns rfl rfl rfl (hb hby d1_30) (by decide) (by decide) ?_
      show Q1 Z p1 a_ALL kA a_LOGIN a_ACCEPTED a_REFUSED a_MESSAGE a_LOGOUT a_VIEW a_RESYNC h0 n0 (some (.ref a_ACCEPTED)) T107.heap _
      rw [e107]
      exact ⟨by unfold own_of; rw [if_neg hc25_105, if_pos hc25_108], N0, rfl⟩
    · refine EndsQ.go (b := T107.setTop (mkF m 31 #[.val (.int p1), .val (.ref a_ALL), .val (.int (7 : Int32)), .val (.int (1 : Int32)), .val (.ref a_ACCEPTED)] [])) (fun t k => ?_) ?_
      · show Steps p.tables e below (T107.setTop (mkF m 25 #[.val (.int p1), .val (.ref a_ALL), .val (.int (7 : Int32)), .val (.int (1 : Int32)), .val (.ref a_ACCEPTED)] [(.int p1), (.int (2 : Int32))])) _
        refine XS.icmpYes X107.here hx rfl (pc0 := 25) (pc' := 31) rfl (hb hby d1_25) rfl (feq hc25_108).2 (by decide) (by decide) ?_
        show Steps p.tables e below (T107.setTop (mkF m 31 #[.val (.int p1), .val (.ref a_ALL), .val (.int (7 : Int32)), .val (.int (1 : Int32)), .val (.ref a_ACCEPTED)] [])) _
        exact k
      refine EndsQ.go (b := T107.setTop (mkF m 16 #[.val (.int p1), .val (.ref a_ALL), .val (.int (7 : Int32)), .val (.int (2 : Int32)), .val (.ref a_ACCEPTED)] [(.int (2 : Int32)), (.ref a_ALL)])) (fun t k => ?_) ?_
      · show Steps p.tables e below (T107.setTop (mkF m 31 #[.val (.int p1), .val (.ref a_ALL), .val (.int (7 : Int32)), .val (.int (1 : Int32)), .val (.ref a_ACCEPTED)] [])) _
        refine XS.iinc X107.here hx rfl (hb hby d1_31) rfl (l' := #[.val (.int p1), .val (.ref a_ALL), .val (.int (7 : Int32)), .val (.int ((1 : Int32) + Int32.ofInt 1)), .val (.ref a_ACCEPTED)]) rfl ?_
        show Steps p.tables e below (T107.setTop (mkF m 34 #[.val (.int p1), .val (.ref a_ALL), .val (.int (7 : Int32)), .val (.int ((1 : Int32) + Int32.ofInt 1)), .val (.ref a_ACCEPTED)] [])) _
        rw [(by decide : ((1 : Int32) + Int32.ofInt 1) = (2 : Int32))]
        show Steps p.tables e below (T107.setTop (mkF m 34 #[.val (.int p1), .val (.ref a_ALL), .val (.int (7 : Int32)), .val (.int (2 : Int32)), .val (.ref a_ACCEPTED)] [])) _
        refine XS.goto X107.here hx rfl (pc0 := 34) (pc' := 9) rfl (hb hby d1_34) (by decide) (by decide) ?_
        show Steps p.tables e below (T107.setTop (mkF m 9 #[.val (.int p1), .val (.ref a_ALL), .val (.int (7 : Int32)), .val (.int (2 : Int32)), .val (.ref a_ACCEPTED)] [])) _
        refine XS.iloadN X107.here hx rfl (hb hby d1_9) rfl ?_
        show Steps p.tables e below (T107.setTop (mkF m 10 #[.val (.int p1), .val (.ref a_ALL), .val (.int (7 : Int32)), .val (.int (2 : Int32)), .val (.ref a_ACCEPTED)] [(.int (2 : Int32))])) _
        refine XS.iloadN X107.here hx rfl (hb hby d1_10) rfl ?_
        show Steps p.tables e below (T107.setTop (mkF m 11 #[.val (.int p1), .val (.ref a_ALL), .val (.int (7 : Int32)), .val (.int (2 : Int32)), .val (.ref a_ACCEPTED)] [(.int (7 : Int32)), (.int (2 : Int32))])) _
        refine XS.icmpNo X107.here hx rfl (hb hby d1_11) rfl (tlt (by decide)).2.1 ?_
        show Steps p.tables e below (T107.setTop (mkF m 14 #[.val (.int p1), .val (.ref a_ALL), .val (.int (7 : Int32)), .val (.int (2 : Int32)), .val (.ref a_ACCEPTED)] [])) _
        refine XS.aloadN X107.here hx rfl (hb hby d1_14) rfl rfl ?_
        show Steps p.tables e below (T107.setTop (mkF m 15 #[.val (.int p1), .val (.ref a_ALL), .val (.int (7 : Int32)), .val (.int (2 : Int32)), .val (.ref a_ACCEPTED)] [(.ref a_ALL)])) _
        refine XS.iloadN X107.here hx rfl (hb hby d1_15) rfl ?_
        show Steps p.tables e below (T107.setTop (mkF m 16 #[.val (.int p1), .val (.ref a_ALL), .val (.int (7 : Int32)), .val (.int (2 : Int32)), .val (.ref a_ACCEPTED)] [(.int (2 : Int32)), (.ref a_ALL)])) _
        exact k
      obtain ⟨cl109, Ar109, q109, S109, M109, H109, G109⟩ := id V_ALL
      have hin109 : ¬ ((2 : Int32) < 0 ∨ cl109.slots.size ≤ ((2 : Int32)).toNatClampNeg) := inb_of S109 ⟨by decide, by decide⟩
      have hat109 : cl109.slots[((2 : Int32)).toNatClampNeg]? = some (.ref a_REFUSED) := Has.at H109 hin109 rfl
      refine EndsQ.go (fun t k => X107.aaload hx (j := (2 : Int32)) (v := (.ref a_REFUSED)) (by rw [e107]; exact Ar109.1) (State.isArrayOf_alike hZ.alike Ar109.2.1) rfl Ar109.2.2 hin109 hat109 (g := (mkF m 16 #[.val (.int p1), .val (.ref a_ALL), .val (.int (7 : Int32)), .val (.int (2 : Int32)), .val (.ref a_ACCEPTED)] [(.int (2 : Int32)), (.ref a_ALL)])) rfl rfl (hb hby d1_16) _ k) ?_
      show EndsQ _ _ _ _ _ _ _ (T107.setTop (mkF m 17 #[.val (.int p1), .val (.ref a_ALL), .val (.int (7 : Int32)), .val (.int (2 : Int32)), .val (.ref a_ACCEPTED)] [(.ref a_REFUSED)]))
      refine EndsQ.go (b := T107.setTop (mkF m 21 #[.val (.int p1), .val (.ref a_ALL), .val (.int (7 : Int32)), .val (.int (2 : Int32)), .val (.ref a_REFUSED)] [(.ref a_REFUSED)])) (fun t k => ?_) ?_
      · show Steps p.tables e below (T107.setTop (mkF m 17 #[.val (.int p1), .val (.ref a_ALL), .val (.int (7 : Int32)), .val (.int (2 : Int32)), .val (.ref a_ACCEPTED)] [(.ref a_REFUSED)])) _
        refine XS.astore X107.here hx rfl (hb hby d1_17) rfl rfl (l' := #[.val (.int p1), .val (.ref a_ALL), .val (.int (7 : Int32)), .val (.int (2 : Int32)), .val (.ref a_REFUSED)]) rfl ?_
        show Steps p.tables e below (T107.setTop (mkF m 19 #[.val (.int p1), .val (.ref a_ALL), .val (.int (7 : Int32)), .val (.int (2 : Int32)), .val (.ref a_REFUSED)] [])) _
        refine XS.aload X107.here hx rfl (hb hby d1_19) rfl rfl ?_
        show Steps p.tables e below (T107.setTop (mkF m 21 #[.val (.int p1), .val (.ref a_ALL), .val (.int (7 : Int32)), .val (.int (2 : Int32)), .val (.ref a_REFUSED)] [(.ref a_REFUSED)])) _
        exact k
      obtain ⟨T110, X110, e110, st110⟩ := getF X107 hx hZ hown (host := "") (Or.inl (hw _ (List.mem_of_getElem? (i := 7) rfl))) Via.refl e107 F_REFUSED_code (g := (mkF m 21 #[.val (.int p1), .val (.ref a_ALL), .val (.int (7 : Int32)), .val (.int (2 : Int32)), .val (.ref a_REFUSED)] [(.ref a_REFUSED)])) rfl rfl (hb hby d1_21)
      refine EndsQ.go st110 ?_
      show EndsQ _ _ _ _ _ _ _ (T110.setTop (mkF m 24 #[.val (.int p1), .val (.ref a_ALL), .val (.int (7 : Int32)), .val (.int (2 : Int32)), .val (.ref a_REFUSED)] [(.int (3 : Int32))]))
      refine EndsQ.go (b := T110.setTop (mkF m 25 #[.val (.int p1), .val (.ref a_ALL), .val (.int (7 : Int32)), .val (.int (2 : Int32)), .val (.ref a_REFUSED)] [(.int p1), (.int (3 : Int32))])) (fun t k => ?_) ?_
      · show Steps p.tables e below (T110.setTop (mkF m 24 #[.val (.int p1), .val (.ref a_ALL), .val (.int (7 : Int32)), .val (.int (2 : Int32)), .val (.ref a_REFUSED)] [(.int (3 : Int32))])) _
        refine XS.iloadN X110.here hx rfl (hb hby d1_24) rfl ?_
        show Steps p.tables e below (T110.setTop (mkF m 25 #[.val (.int p1), .val (.ref a_ALL), .val (.int (7 : Int32)), .val (.int (2 : Int32)), .val (.ref a_REFUSED)] [(.int p1), (.int (3 : Int32))])) _
        exact k
      by_cases hc25_111 : (3 : Int32) = p1
      · refine EndsQ.go (b := T110.setTop (mkF m 28 #[.val (.int p1), .val (.ref a_ALL), .val (.int (7 : Int32)), .val (.int (2 : Int32)), .val (.ref a_REFUSED)] [])) (fun t k => ?_) ?_
        · show Steps p.tables e below (T110.setTop (mkF m 25 #[.val (.int p1), .val (.ref a_ALL), .val (.int (7 : Int32)), .val (.int (2 : Int32)), .val (.ref a_REFUSED)] [(.int p1), (.int (3 : Int32))])) _
          refine XS.icmpNo X110.here hx rfl (hb hby d1_25) rfl (teq hc25_111).2 ?_
          show Steps p.tables e below (T110.setTop (mkF m 28 #[.val (.int p1), .val (.ref a_ALL), .val (.int (7 : Int32)), .val (.int (2 : Int32)), .val (.ref a_REFUSED)] [])) _
          exact k
        refine EndsQ.go (b := T110.setTop (mkF m 30 #[.val (.int p1), .val (.ref a_ALL), .val (.int (7 : Int32)), .val (.int (2 : Int32)), .val (.ref a_REFUSED)] [(.ref a_REFUSED)])) (fun t k => ?_) ?_
        · show Steps p.tables e below (T110.setTop (mkF m 28 #[.val (.int p1), .val (.ref a_ALL), .val (.int (7 : Int32)), .val (.int (2 : Int32)), .val (.ref a_REFUSED)] [])) _
          refine XS.aload X110.here hx rfl (hb hby d1_28) rfl rfl ?_
          show Steps p.tables e below (T110.setTop (mkF m 30 #[.val (.int p1), .val (.ref a_ALL), .val (.int (7 : Int32)), .val (.int (2 : Int32)), .val (.ref a_REFUSED)] [(.ref a_REFUSED)])) _
          exact k
        refine EndsQ.retA X110 hx Bd.notSynchronized (w := (.ref a_REFUSED)) Bd.returns rfl rfl rfl (hb hby d1_30) (by decide) (by decide) ?_
        show Q1 Z p1 a_ALL kA a_LOGIN a_ACCEPTED a_REFUSED a_MESSAGE a_LOGOUT a_VIEW a_RESYNC h0 n0 (some (.ref a_REFUSED)) T110.heap _
        rw [e110]
        exact ⟨by unfold own_of; rw [if_neg hc25_105, if_neg hc25_108, if_pos hc25_111], N0, rfl⟩
      · refine EndsQ.go (b := T110.setTop (mkF m 31 #[.val (.int p1), .val (.ref a_ALL), .val (.int (7 : Int32)), .val (.int (2 : Int32)), .val (.ref a_REFUSED)] [])) (fun t k => ?_) ?_
        · show Steps p.tables e below (T110.setTop (mkF m 25 #[.val (.int p1), .val (.ref a_ALL), .val (.int (7 : Int32)), .val (.int (2 : Int32)), .val (.ref a_REFUSED)] [(.int p1), (.int (3 : Int32))])) _
          refine XS.icmpYes X110.here hx rfl (pc0 := 25) (pc' := 31) rfl (hb hby d1_25) rfl (feq hc25_111).2 (by decide) (by decide) ?_
          show Steps p.tables e below (T110.setTop (mkF m 31 #[.val (.int p1), .val (.ref a_ALL), .val (.int (7 : Int32)), .val (.int (2 : Int32)), .val (.ref a_REFUSED)] [])) _
          exact k
        refine EndsQ.go (b := T110.setTop (mkF m 16 #[.val (.int p1), .val (.ref a_ALL), .val (.int (7 : Int32)), .val (.int (3 : Int32)), .val (.ref a_REFUSED)] [(.int (3 : Int32)), (.ref a_ALL)])) (fun t k => ?_) ?_
        · show Steps p.tables e below (T110.setTop (mkF m 31 #[.val (.int p1), .val (.ref a_ALL), .val (.int (7 : Int32)), .val (.int (2 : Int32)), .val (.ref a_REFUSED)] [])) _
          refine XS.iinc X110.here hx rfl (hb hby d1_31) rfl (l' := #[.val (.int p1), .val (.ref a_ALL), .val (.int (7 : Int32)), .val (.int ((2 : Int32) + Int32.ofInt 1)), .val (.ref a_REFUSED)]) rfl ?_
          show Steps p.tables e below (T110.setTop (mkF m 34 #[.val (.int p1), .val (.ref a_ALL), .val (.int (7 : Int32)), .val (.int ((2 : Int32) + Int32.ofInt 1)), .val (.ref a_REFUSED)] [])) _
          rw [(by decide : ((2 : Int32) + Int32.ofInt 1) = (3 : Int32))]
          show Steps p.tables e below (T110.setTop (mkF m 34 #[.val (.int p1), .val (.ref a_ALL), .val (.int (7 : Int32)), .val (.int (3 : Int32)), .val (.ref a_REFUSED)] [])) _
          refine XS.goto X110.here hx rfl (pc0 := 34) (pc' := 9) rfl (hb hby d1_34) (by decide) (by decide) ?_
          show Steps p.tables e below (T110.setTop (mkF m 9 #[.val (.int p1), .val (.ref a_ALL), .val (.int (7 : Int32)), .val (.int (3 : Int32)), .val (.ref a_REFUSED)] [])) _
          refine XS.iloadN X110.here hx rfl (hb hby d1_9) rfl ?_
          show Steps p.tables e below (T110.setTop (mkF m 10 #[.val (.int p1), .val (.ref a_ALL), .val (.int (7 : Int32)), .val (.int (3 : Int32)), .val (.ref a_REFUSED)] [(.int (3 : Int32))])) _
          refine XS.iloadN X110.here hx rfl (hb hby d1_10) rfl ?_
          show Steps p.tables e below (T110.setTop (mkF m 11 #[.val (.int p1), .val (.ref a_ALL), .val (.int (7 : Int32)), .val (.int (3 : Int32)), .val (.ref a_REFUSED)] [(.int (7 : Int32)), (.int (3 : Int32))])) _
          refine XS.icmpNo X110.here hx rfl (hb hby d1_11) rfl (tlt (by decide)).2.1 ?_
          show Steps p.tables e below (T110.setTop (mkF m 14 #[.val (.int p1), .val (.ref a_ALL), .val (.int (7 : Int32)), .val (.int (3 : Int32)), .val (.ref a_REFUSED)] [])) _
          refine XS.aloadN X110.here hx rfl (hb hby d1_14) rfl rfl ?_
          show Steps p.tables e below (T110.setTop (mkF m 15 #[.val (.int p1), .val (.ref a_ALL), .val (.int (7 : Int32)), .val (.int (3 : Int32)), .val (.ref a_REFUSED)] [(.ref a_ALL)])) _
          refine XS.iloadN X110.here hx rfl (hb hby d1_15) rfl ?_
          show Steps p.tables e below (T110.setTop (mkF m 16 #[.val (.int p1), .val (.ref a_ALL), .val (.int (7 : Int32)), .val (.int (3 : Int32)), .val (.ref a_REFUSED)] [(.int (3 : Int32)), (.ref a_ALL)])) _
          exact k
        obtain ⟨cl112, Ar112, q112, S112, M112, H112, G112⟩ := id V_ALL
        have hin112 : ¬ ((3 : Int32) < 0 ∨ cl112.slots.size ≤ ((3 : Int32)).toNatClampNeg) := inb_of S112 ⟨by decide, by decide⟩
        have hat112 : cl112.slots[((3 : Int32)).toNatClampNeg]? = some (.ref a_MESSAGE) := Has.at H112 hin112 rfl
        refine EndsQ.go (fun t k => X110.aaload hx (j := (3 : Int32)) (v := (.ref a_MESSAGE)) (by rw [e110]; exact Ar112.1) (State.isArrayOf_alike hZ.alike Ar112.2.1) rfl Ar112.2.2 hin112 hat112 (g := (mkF m 16 #[.val (.int p1), .val (.ref a_ALL), .val (.int (7 : Int32)), .val (.int (3 : Int32)), .val (.ref a_REFUSED)] [(.int (3 : Int32)), (.ref a_ALL)])) rfl rfl (hb hby d1_16) _ k) ?_
        show EndsQ _ _ _ _ _ _ _ (T110.setTop (mkF m 17 #[.val (.int p1), .val (.ref a_ALL), .val (.int (7 : Int32)), .val (.int (3 : Int32)), .val (.ref a_REFUSED)] [(.ref a_MESSAGE)]))
        refine EndsQ.go (b := T110.setTop (mkF m 21 #[.val (.int p1), .val (.ref a_ALL), .val (.int (7 : Int32)), .val (.int (3 : Int32)), .val (.ref a_MESSAGE)] [(.ref a_MESSAGE)])) (fun t k => ?_) ?_
        · show Steps p.tables e below (T110.setTop (mkF m 17 #[.val (.int p1), .val (.ref a_ALL), .val (.int (7 : Int32)), .val (.int (3 : Int32)), .val (.ref a_REFUSED)] [(.ref a_MESSAGE)])) _
          refine XS.astore X110.here hx rfl (hb hby d1_17) rfl rfl (l' := #[.val (.int p1), .val (.ref a_ALL), .val (.int (7 : Int32)), .val (.int (3 : Int32)), .val (.ref a_MESSAGE)]) rfl ?_
          show Steps p.tables e below (T110.setTop (mkF m 19 #[.val (.int p1), .val (.ref a_ALL), .val (.int (7 : Int32)), .val (.int (3 : Int32)), .val (.ref a_MESSAGE)] [])) _
          refine XS.aload X110.here hx rfl (hb hby d1_19) rfl rfl ?_
          show Steps p.tables e below (T110.setTop (mkF m 21 #[.val (.int p1), .val (.ref a_ALL), .val (.int (7 : Int32)), .val (.int (3 : Int32)), .val (.ref a_MESSAGE)] [(.ref a_MESSAGE)])) _
          exact k
        obtain ⟨T113, X113, e113, st113⟩ := getF X110 hx hZ hown (host := "") (Or.inl (hw _ (List.mem_of_getElem? (i := 7) rfl))) Via.refl e110 F_MESSAGE_code (g := (mkF m 21 #[.val (.int p1), .val (.ref a_ALL), .val (.int (7 : Int32)), .val (.int (3 : Int32)), .val (.ref a_MESSAGE)] [(.ref a_MESSAGE)])) rfl rfl (hb hby d1_21)
        refine EndsQ.go st113 ?_
        show EndsQ _ _ _ _ _ _ _ (T113.setTop (mkF m 24 #[.val (.int p1), .val (.ref a_ALL), .val (.int (7 : Int32)), .val (.int (3 : Int32)), .val (.ref a_MESSAGE)] [(.int (4 : Int32))]))
        refine EndsQ.go (b := T113.setTop (mkF m 25 #[.val (.int p1), .val (.ref a_ALL), .val (.int (7 : Int32)), .val (.int (3 : Int32)), .val (.ref a_MESSAGE)] [(.int p1), (.int (4 : Int32))])) (fun t k => ?_) ?_
        · show Steps p.tables e below (T113.setTop (mkF m 24 #[.val (.int p1), .val (.ref a_ALL), .val (.int (7 : Int32)), .val (.int (3 : Int32)), .val (.ref a_MESSAGE)] [(.int (4 : Int32))])) _
          refine XS.iloadN X113.here hx rfl (hb hby d1_24) rfl ?_
          show Steps p.tables e below (T113.setTop (mkF m 25 #[.val (.int p1), .val (.ref a_ALL), .val (.int (7 : Int32)), .val (.int (3 : Int32)), .val (.ref a_MESSAGE)] [(.int p1), (.int (4 : Int32))])) _
          exact k
        by_cases hc25_114 : (4 : Int32) = p1
        · refine EndsQ.go (b := T113.setTop (mkF m 28 #[.val (.int p1), .val (.ref a_ALL), .val (.int (7 : Int32)), .val (.int (3 : Int32)), .val (.ref a_MESSAGE)] [])) (fun t k => ?_) ?_
          · show Steps p.tables e below (T113.setTop (mkF m 25 #[.val (.int p1), .val (.ref a_ALL), .val (.int (7 : Int32)), .val (.int (3 : Int32)), .val (.ref a_MESSAGE)] [(.int p1), (.int (4 : Int32))])) _
            refine XS.icmpNo X113.here hx rfl (hb hby d1_25) rfl (teq hc25_114).2 ?_
            show Steps p.tables e below (T113.setTop (mkF m 28 #[.val (.int p1), .val (.ref a_ALL), .val (.int (7 : Int32)), .val (.int (3 : Int32)), .val (.ref a_MESSAGE)] [])) _
            exact k
          refine EndsQ.go (b := T113.setTop (mkF m 30 #[.val (.int p1), .val (.ref a_ALL), .val (.int (7 : Int32)), .val (.int (3 : Int32)), .val (.ref a_MESSAGE)] [(.ref a_MESSAGE)])) (fun t k => ?_) ?_
          · show Steps p.tables e below (T113.setTop (mkF m 28 #[.val (.int p1), .val (.ref a_ALL), .val (.int (7 : Int32)), .val (.int (3 : Int32)), .val (.ref a_MESSAGE)] [])) _
            refine XS.aload X113.here hx rfl (hb hby d1_28) rfl rfl ?_
            show Steps p.tables e below (T113.setTop (mkF m 30 #[.val (.int p1), .val (.ref a_ALL), .val (.int (7 : Int32)), .val (.int (3 : Int32)), .val (.ref a_MESSAGE)] [(.ref a_MESSAGE)])) _
            exact k
          refine EndsQ.retA X113 hx Bd.notSynchronized (w := (.ref a_MESSAGE)) Bd.returns rfl rfl rfl (hb hby d1_30) (by decide) (by decide) ?_
          show Q1 Z p1 a_ALL kA a_LOGIN a_ACCEPTED a_REFUSED a_MESSAGE a_LOGOUT a_VIEW a_RESYNC h0 n0 (some (.ref a_MESSAGE)) T113.heap _
          rw [e113]
          exact ⟨by unfold own_of; rw [if_neg hc25_105, if_neg hc25_108, if_neg hc25_111, if_pos hc25_114], N0, rfl⟩
        · refine EndsQ.go (b := T113.setTop (mkF m 31 #[.val (.int p1), .val (.ref a_ALL), .val (.int (7 : Int32)), .val (.int (3 : Int32)), .val (.ref a_MESSAGE)] [])) (fun t k => ?_) ?_
          · show Steps p.tables e below (T113.setTop (mkF m 25 #[.val (.int p1), .val (.ref a_ALL), .val (.int (7 : Int32)), .val (.int (3 : Int32)), .val (.ref a_MESSAGE)] [(.int p1), (.int (4 : Int32))])) _
            refine XS.icmpYes X113.here hx rfl (pc0 := 25) (pc' := 31) rfl (hb hby d1_25) rfl (feq hc25_114).2 (by decide) (by decide) ?_
            show Steps p.tables e below (T113.setTop (mkF m 31 #[.val (.int p1), .val (.ref a_ALL), .val (.int (7 : Int32)), .val (.int (3 : Int32)), .val (.ref a_MESSAGE)] [])) _
            exact k
          refine EndsQ.go (b := T113.setTop (mkF m 16 #[.val (.int p1), .val (.ref a_ALL), .val (.int (7 : Int32)), .val (.int (4 : Int32)), .val (.ref a_MESSAGE)] [(.int (4 : Int32)), (.ref a_ALL)])) (fun t k => ?_) ?_
          · show Steps p.tables e below (T113.setTop (mkF m 31 #[.val (.int p1), .val (.ref a_ALL), .val (.int (7 : Int32)), .val (.int (3 : Int32)), .val (.ref a_MESSAGE)] [])) _
            refine XS.iinc X113.here hx rfl (hb hby d1_31) rfl (l' := #[.val (.int p1), .val (.ref a_ALL), .val (.int (7 : Int32)), .val (.int ((3 : Int32) + Int32.ofInt 1)), .val (.ref a_MESSAGE)]) rfl ?_
            show Steps p.tables e below (T113.setTop (mkF m 34 #[.val (.int p1), .val (.ref a_ALL), .val (.int (7 : Int32)), .val (.int ((3 : Int32) + Int32.ofInt 1)), .val (.ref a_MESSAGE)] [])) _
            rw [(by decide : ((3 : Int32) + Int32.ofInt 1) = (4 : Int32))]
            show Steps p.tables e below (T113.setTop (mkF m 34 #[.val (.int p1), .val (.ref a_ALL), .val (.int (7 : Int32)), .val (.int (4 : Int32)), .val (.ref a_MESSAGE)] [])) _
            refine XS.goto X113.here hx rfl (pc0 := 34) (pc' := 9) rfl (hb hby d1_34) (by decide) (by decide) ?_
            show Steps p.tables e below (T113.setTop (mkF m 9 #[.val (.int p1), .val (.ref a_ALL), .val (.int (7 : Int32)), .val (.int (4 : Int32)), .val (.ref a_MESSAGE)] [])) _
            refine XS.iloadN X113.here hx rfl (hb hby d1_9) rfl ?_
            show Steps p.tables e below (T113.setTop (mkF m 10 #[.val (.int p1), .val (.ref a_ALL), .val (.int (7 : Int32)), .val (.int (4 : Int32)), .val (.ref a_MESSAGE)] [(.int (4 : Int32))])) _
            refine XS.iloadN X113.here hx rfl (hb hby d1_10) rfl ?_
            show Steps p.tables e below (T113.setTop (mkF m 11 #[.val (.int p1), .val (.ref a_ALL), .val (.int (7 : Int32)), .val (.int (4 : Int32)), .val (.ref a_MESSAGE)] [(.int (7 : Int32)), (.int (4 : Int32))])) _
            refine XS.icmpNo X113.here hx rfl (hb hby d1_11) rfl (tlt (by decide)).2.1 ?_
            show Steps p.tables e below (T113.setTop (mkF m 14 #[.val (.int p1), .val (.ref a_ALL), .val (.int (7 : Int32)), .val (.int (4 : Int32)), .val (.ref a_MESSAGE)] [])) _
            refine XS.aloadN X113.here hx rfl (hb hby d1_14) rfl rfl ?_
            show Steps p.tables e below (T113.setTop (mkF m 15 #[.val (.int p1), .val (.ref a_ALL), .val (.int (7 : Int32)), .val (.int (4 : Int32)), .val (.ref a_MESSAGE)] [(.ref a_ALL)])) _
            refine XS.iloadN X113.here hx rfl (hb hby d1_15) rfl ?_
            show Steps p.tables e below (T113.setTop (mkF m 16 #[.val (.int p1), .val (.ref a_ALL), .val (.int (7 : Int32)), .val (.int (4 : Int32)), .val (.ref a_MESSAGE)] [(.int (4 : Int32)), (.ref a_ALL)])) _
            exact k
          obtain ⟨cl115, Ar115, q115, S115, M115, H115, G115⟩ := id V_ALL
          have hin115 : ¬ ((4 : Int32) < 0 ∨ cl115.slots.size ≤ ((4 : Int32)).toNatClampNeg) := inb_of S115 ⟨by decide, by decide⟩
          have hat115 : cl115.slots[((4 : Int32)).toNatClampNeg]? = some (.ref a_LOGOUT) := Has.at H115 hin115 rfl
          refine EndsQ.go (fun t k => X113.aaload hx (j := (4 : Int32)) (v := (.ref a_LOGOUT)) (by rw [e113]; exact Ar115.1) (State.isArrayOf_alike hZ.alike Ar115.2.1) rfl Ar115.2.2 hin115 hat115 (g := (mkF m 16 #[.val (.int p1), .val (.ref a_ALL), .val (.int (7 : Int32)), .val (.int (4 : Int32)), .val (.ref a_MESSAGE)] [(.int (4 : Int32)), (.ref a_ALL)])) rfl rfl (hb hby d1_16) _ k) ?_
          show EndsQ _ _ _ _ _ _ _ (T113.setTop (mkF m 17 #[.val (.int p1), .val (.ref a_ALL), .val (.int (7 : Int32)), .val (.int (4 : Int32)), .val (.ref a_MESSAGE)] [(.ref a_LOGOUT)]))
          refine EndsQ.go (b := T113.setTop (mkF m 21 #[.val (.int p1), .val (.ref a_ALL), .val (.int (7 : Int32)), .val (.int (4 : Int32)), .val (.ref a_LOGOUT)] [(.ref a_LOGOUT)])) (fun t k => ?_) ?_
          · show Steps p.tables e below (T113.setTop (mkF m 17 #[.val (.int p1), .val (.ref a_ALL), .val (.int (7 : Int32)), .val (.int (4 : Int32)), .val (.ref a_MESSAGE)] [(.ref a_LOGOUT)])) _
            refine XS.astore X113.here hx rfl (hb hby d1_17) rfl rfl (l' := #[.val (.int p1), .val (.ref a_ALL), .val (.int (7 : Int32)), .val (.int (4 : Int32)), .val (.ref a_LOGOUT)]) rfl ?_
            show Steps p.tables e below (T113.setTop (mkF m 19 #[.val (.int p1), .val (.ref a_ALL), .val (.int (7 : Int32)), .val (.int (4 : Int32)), .val (.ref a_LOGOUT)] [])) _
            refine XS.aload X113.here hx rfl (hb hby d1_19) rfl rfl ?_
            show Steps p.tables e below (T113.setTop (mkF m 21 #[.val (.int p1), .val (.ref a_ALL), .val (.int (7 : Int32)), .val (.int (4 : Int32)), .val (.ref a_LOGOUT)] [(.ref a_LOGOUT)])) _
            exact k
          obtain ⟨T116, X116, e116, st116⟩ := getF X113 hx hZ hown (host := "") (Or.inl (hw _ (List.mem_of_getElem? (i := 7) rfl))) Via.refl e113 F_LOGOUT_code (g := (mkF m 21 #[.val (.int p1), .val (.ref a_ALL), .val (.int (7 : Int32)), .val (.int (4 : Int32)), .val (.ref a_LOGOUT)] [(.ref a_LOGOUT)])) rfl rfl (hb hby d1_21)
          refine EndsQ.go st116 ?_
          show EndsQ _ _ _ _ _ _ _ (T116.setTop (mkF m 24 #[.val (.int p1), .val (.ref a_ALL), .val (.int (7 : Int32)), .val (.int (4 : Int32)), .val (.ref a_LOGOUT)] [(.int (5 : Int32))]))
          refine EndsQ.go (b := T116.setTop (mkF m 25 #[.val (.int p1), .val (.ref a_ALL), .val (.int (7 : Int32)), .val (.int (4 : Int32)), .val (.ref a_LOGOUT)] [(.int p1), (.int (5 : Int32))])) (fun t k => ?_) ?_
          · show Steps p.tables e below (T116.setTop (mkF m 24 #[.val (.int p1), .val (.ref a_ALL), .val (.int (7 : Int32)), .val (.int (4 : Int32)), .val (.ref a_LOGOUT)] [(.int (5 : Int32))])) _
            refine XS.iloadN X116.here hx rfl (hb hby d1_24) rfl ?_
            show Steps p.tables e below (T116.setTop (mkF m 25 #[.val (.int p1), .val (.ref a_ALL), .val (.int (7 : Int32)), .val (.int (4 : Int32)), .val (.ref a_LOGOUT)] [(.int p1), (.int (5 : Int32))])) _
            exact k
          by_cases hc25_117 : (5 : Int32) = p1
          · refine EndsQ.go (b := T116.setTop (mkF m 28 #[.val (.int p1), .val (.ref a_ALL), .val (.int (7 : Int32)), .val (.int (4 : Int32)), .val (.ref a_LOGOUT)] [])) (fun t k => ?_) ?_
            · show Steps p.tables e below (T116.setTop (mkF m 25 #[.val (.int p1), .val (.ref a_ALL), .val (.int (7 : Int32)), .val (.int (4 : Int32)), .val (.ref a_LOGOUT)] [(.int p1), (.int (5 : Int32))])) _
              refine XS.icmpNo X116.here hx rfl (hb hby d1_25) rfl (teq hc25_117).2 ?_
              show Steps p.tables e below (T116.setTop (mkF m 28 #[.val (.int p1), .val (.ref a_ALL), .val (.int (7 : Int32)), .val (.int (4 : Int32)), .val (.ref a_LOGOUT)] [])) _
              exact k
            refine EndsQ.go (b := T116.setTop (mkF m 30 #[.val (.int p1), .val (.ref a_ALL), .val (.int (7 : Int32)), .val (.int (4 : Int32)), .val (.ref a_LOGOUT)] [(.ref a_LOGOUT)])) (fun t k => ?_) ?_
            · show Steps p.tables e below (T116.setTop (mkF m 28 #[.val (.int p1), .val (.ref a_ALL), .val (.int (7 : Int32)), .val (.int (4 : Int32)), .val (.ref a_LOGOUT)] [])) _
              refine XS.aload X116.here hx rfl (hb hby d1_28) rfl rfl ?_
              show Steps p.tables e below (T116.setTop (mkF m 30 #[.val (.int p1), .val (.ref a_ALL), .val (.int (7 : Int32)), .val (.int (4 : Int32)), .val (.ref a_LOGOUT)] [(.ref a_LOGOUT)])) _
              exact k
            refine EndsQ.retA X116 hx Bd.notSynchronized (w := (.ref a_LOGOUT)) Bd.returns rfl rfl rfl (hb hby d1_30) (by decide) (by decide) ?_
            show Q1 Z p1 a_ALL kA a_LOGIN a_ACCEPTED a_REFUSED a_MESSAGE a_LOGOUT a_VIEW a_RESYNC h0 n0 (some (.ref a_LOGOUT)) T116.heap _
            rw [e116]
            exact ⟨by unfold own_of; rw [if_neg hc25_105, if_neg hc25_108, if_neg hc25_111, if_neg hc25_114, if_pos hc25_117], N0, rfl⟩
          · refine EndsQ.go (b := T116.setTop (mkF m 31 #[.val (.int p1), .val (.ref a_ALL), .val (.int (7 : Int32)), .val (.int (4 : Int32)), .val (.ref a_LOGOUT)] [])) (fun t k => ?_) ?_
            · show Steps p.tables e below (T116.setTop (mkF m 25 #[.val (.int p1), .val (.ref a_ALL), .val (.int (7 : Int32)), .val (.int (4 : Int32)), .val (.ref a_LOGOUT)] [(.int p1), (.int (5 : Int32))])) _
              refine XS.icmpYes X116.here hx rfl (pc0 := 25) (pc' := 31) rfl (hb hby d1_25) rfl (feq hc25_117).2 (by decide) (by decide) ?_
              show Steps p.tables e below (T116.setTop (mkF m 31 #[.val (.int p1), .val (.ref a_ALL), .val (.int (7 : Int32)), .val (.int (4 : Int32)), .val (.ref a_LOGOUT)] [])) _
              exact k
            refine EndsQ.go (b := T116.setTop (mkF m 16 #[.val (.int p1), .val (.ref a_ALL), .val (.int (7 : Int32)), .val (.int (5 : Int32)), .val (.ref a_LOGOUT)] [(.int (5 : Int32)), (.ref a_ALL)])) (fun t k => ?_) ?_
            · show Steps p.tables e below (T116.setTop (mkF m 31 #[.val (.int p1), .val (.ref a_ALL), .val (.int (7 : Int32)), .val (.int (4 : Int32)), .val (.ref a_LOGOUT)] [])) _
              refine XS.iinc X116.here hx rfl (hb hby d1_31) rfl (l' := #[.val (.int p1), .val (.ref a_ALL), .val (.int (7 : Int32)), .val (.int ((4 : Int32) + Int32.ofInt 1)), .val (.ref a_LOGOUT)]) rfl ?_
              show Steps p.tables e below (T116.setTop (mkF m 34 #[.val (.int p1), .val (.ref a_ALL), .val (.int (7 : Int32)), .val (.int ((4 : Int32) + Int32.ofInt 1)), .val (.ref a_LOGOUT)] [])) _
              rw [(by decide : ((4 : Int32) + Int32.ofInt 1) = (5 : Int32))]
              show Steps p.tables e below (T116.setTop (mkF m 34 #[.val (.int p1), .val (.ref a_ALL), .val (.int (7 : Int32)), .val (.int (5 : Int32)), .val (.ref a_LOGOUT)] [])) _
              refine XS.goto X116.here hx rfl (pc0 := 34) (pc' := 9) rfl (hb hby d1_34) (by decide) (by decide) ?_
              show Steps p.tables e below (T116.setTop (mkF m 9 #[.val (.int p1), .val (.ref a_ALL), .val (.int (7 : Int32)), .val (.int (5 : Int32)), .val (.ref a_LOGOUT)] [])) _
              refine XS.iloadN X116.here hx rfl (hb hby d1_9) rfl ?_
              show Steps p.tables e below (T116.setTop (mkF m 10 #[.val (.int p1), .val (.ref a_ALL), .val (.int (7 : Int32)), .val (.int (5 : Int32)), .val (.ref a_LOGOUT)] [(.int (5 : Int32))])) _
              refine XS.iloadN X116.here hx rfl (hb hby d1_10) rfl ?_
              show Steps p.tables e below (T116.setTop (mkF m 11 #[.val (.int p1), .val (.ref a_ALL), .val (.int (7 : Int32)), .val (.int (5 : Int32)), .val (.ref a_LOGOUT)] [(.int (7 : Int32)), (.int (5 : Int32))])) _
              refine XS.icmpNo X116.here hx rfl (hb hby d1_11) rfl (tlt (by decide)).2.1 ?_
              show Steps p.tables e below (T116.setTop (mkF m 14 #[.val (.int p1), .val (.ref a_ALL), .val (.int (7 : Int32)), .val (.int (5 : Int32)), .val (.ref a_LOGOUT)] [])) _
              refine XS.aloadN X116.here hx rfl (hb hby d1_14) rfl rfl ?_
              show Steps p.tables e below (T116.setTop (mkF m 15 #[.val (.int p1), .val (.ref a_ALL), .val (.int (7 : Int32)), .val (.int (5 : Int32)), .val (.ref a_LOGOUT)] [(.ref a_ALL)])) _
              refine XS.iloadN X116.here hx rfl (hb hby d1_15) rfl ?_
              show Steps p.tables e below (T116.setTop (mkF m 16 #[.val (.int p1), .val (.ref a_ALL), .val (.int (7 : Int32)), .val (.int (5 : Int32)), .val (.ref a_LOGOUT)] [(.int (5 : Int32)), (.ref a_ALL)])) _
              exact k
            obtain ⟨cl118, Ar118, q118, S118, M118, H118, G118⟩ := id V_ALL
            have hin118 : ¬ ((5 : Int32) < 0 ∨ cl118.slots.size ≤ ((5 : Int32)).toNatClampNeg) := inb_of S118 ⟨by decide, by decide⟩
            have hat118 : cl118.slots[((5 : Int32)).toNatClampNeg]? = some (.ref a_VIEW) := Has.at H118 hin118 rfl
            refine EndsQ.go (fun t k => X116.aaload hx (j := (5 : Int32)) (v := (.ref a_VIEW)) (by rw [e116]; exact Ar118.1) (State.isArrayOf_alike hZ.alike Ar118.2.1) rfl Ar118.2.2 hin118 hat118 (g := (mkF m 16 #[.val (.int p1), .val (.ref a_ALL), .val (.int (7 : Int32)), .val (.int (5 : Int32)), .val (.ref a_LOGOUT)] [(.int (5 : Int32)), (.ref a_ALL)])) rfl rfl (hb hby d1_16) _ k) ?_
            show EndsQ _ _ _ _ _ _ _ (T116.setTop (mkF m 17 #[.val (.int p1), .val (.ref a_ALL), .val (.int (7 : Int32)), .val (.int (5 : Int32)), .val (.ref a_LOGOUT)] [(.ref a_VIEW)]))
            refine EndsQ.go (b := T116.setTop (mkF m 21 #[.val (.int p1), .val (.ref a_ALL), .val (.int (7 : Int32)), .val (.int (5 : Int32)), .val (.ref a_VIEW)] [(.ref a_VIEW)])) (fun t k => ?_) ?_
            · show Steps p.tables e below (T116.setTop (mkF m 17 #[.val (.int p1), .val (.ref a_ALL), .val (.int (7 : Int32)), .val (.int (5 : Int32)), .val (.ref a_LOGOUT)] [(.ref a_VIEW)])) _
              refine XS.astore X116.here hx rfl (hb hby d1_17) rfl rfl (l' := #[.val (.int p1), .val (.ref a_ALL), .val (.int (7 : Int32)), .val (.int (5 : Int32)), .val (.ref a_VIEW)]) rfl ?_
              show Steps p.tables e below (T116.setTop (mkF m 19 #[.val (.int p1), .val (.ref a_ALL), .val (.int (7 : Int32)), .val (.int (5 : Int32)), .val (.ref a_VIEW)] [])) _
              refine XS.aload X116.here hx rfl (hb hby d1_19) rfl rfl ?_
              show Steps p.tables e below (T116.setTop (mkF m 21 #[.val (.int p1), .val (.ref a_ALL), .val (.int (7 : Int32)), .val (.int (5 : Int32)), .val (.ref a_VIEW)] [(.ref a_VIEW)])) _
              exact k
            obtain ⟨T119, X119, e119, st119⟩ := getF X116 hx hZ hown (host := "") (Or.inl (hw _ (List.mem_of_getElem? (i := 7) rfl))) Via.refl e116 F_VIEW_code (g := (mkF m 21 #[.val (.int p1), .val (.ref a_ALL), .val (.int (7 : Int32)), .val (.int (5 : Int32)), .val (.ref a_VIEW)] [(.ref a_VIEW)])) rfl rfl (hb hby d1_21)
            refine EndsQ.go st119 ?_
            show EndsQ _ _ _ _ _ _ _ (T119.setTop (mkF m 24 #[.val (.int p1), .val (.ref a_ALL), .val (.int (7 : Int32)), .val (.int (5 : Int32)), .val (.ref a_VIEW)] [(.int (6 : Int32))]))
            refine EndsQ.go (b := T119.setTop (mkF m 25 #[.val (.int p1), .val (.ref a_ALL), .val (.int (7 : Int32)), .val (.int (5 : Int32)), .val (.ref a_VIEW)] [(.int p1), (.int (6 : Int32))])) (fun t k => ?_) ?_
            · show Steps p.tables e below (T119.setTop (mkF m 24 #[.val (.int p1), .val (.ref a_ALL), .val (.int (7 : Int32)), .val (.int (5 : Int32)), .val (.ref a_VIEW)] [(.int (6 : Int32))])) _
              refine XS.iloadN X119.here hx rfl (hb hby d1_24) rfl ?_
              show Steps p.tables e below (T119.setTop (mkF m 25 #[.val (.int p1), .val (.ref a_ALL), .val (.int (7 : Int32)), .val (.int (5 : Int32)), .val (.ref a_VIEW)] [(.int p1), (.int (6 : Int32))])) _
              exact k
            by_cases hc25_120 : (6 : Int32) = p1
            · refine EndsQ.go (b := T119.setTop (mkF m 28 #[.val (.int p1), .val (.ref a_ALL), .val (.int (7 : Int32)), .val (.int (5 : Int32)), .val (.ref a_VIEW)] [])) (fun t k => ?_) ?_
              · show Steps p.tables e below (T119.setTop (mkF m 25 #[.val (.int p1), .val (.ref a_ALL), .val (.int (7 : Int32)), .val (.int (5 : Int32)), .val (.ref a_VIEW)] [(.int p1), (.int (6 : Int32))])) _
                refine XS.icmpNo X119.here hx rfl (hb hby d1_25) rfl (teq hc25_120).2 ?_
                show Steps p.tables e below (T119.setTop (mkF m 28 #[.val (.int p1), .val (.ref a_ALL), .val (.int (7 : Int32)), .val (.int (5 : Int32)), .val (.ref a_VIEW)] [])) _
                exact k
              refine EndsQ.go (b := T119.setTop (mkF m 30 #[.val (.int p1), .val (.ref a_ALL), .val (.int (7 : Int32)), .val (.int (5 : Int32)), .val (.ref a_VIEW)] [(.ref a_VIEW)])) (fun t k => ?_) ?_
              · show Steps p.tables e below (T119.setTop (mkF m 28 #[.val (.int p1), .val (.ref a_ALL), .val (.int (7 : Int32)), .val (.int (5 : Int32)), .val (.ref a_VIEW)] [])) _
                refine XS.aload X119.here hx rfl (hb hby d1_28) rfl rfl ?_
                show Steps p.tables e below (T119.setTop (mkF m 30 #[.val (.int p1), .val (.ref a_ALL), .val (.int (7 : Int32)), .val (.int (5 : Int32)), .val (.ref a_VIEW)] [(.ref a_VIEW)])) _
                exact k
              refine EndsQ.retA X119 hx Bd.notSynchronized (w := (.ref a_VIEW)) Bd.returns rfl rfl rfl (hb hby d1_30) (by decide) (by decide) ?_
              show Q1 Z p1 a_ALL kA a_LOGIN a_ACCEPTED a_REFUSED a_MESSAGE a_LOGOUT a_VIEW a_RESYNC h0 n0 (some (.ref a_VIEW)) T119.heap _
              rw [e119]
              exact ⟨by unfold own_of; rw [if_neg hc25_105, if_neg hc25_108, if_neg hc25_111, if_neg hc25_114, if_neg hc25_117, if_pos hc25_120], N0, rfl⟩
            · refine EndsQ.go (b := T119.setTop (mkF m 31 #[.val (.int p1), .val (.ref a_ALL), .val (.int (7 : Int32)), .val (.int (5 : Int32)), .val (.ref a_VIEW)] [])) (fun t k => ?_) ?_
              · show Steps p.tables e below (T119.setTop (mkF m 25 #[.val (.int p1), .val (.ref a_ALL), .val (.int (7 : Int32)), .val (.int (5 : Int32)), .val (.ref a_VIEW)] [(.int p1), (.int (6 : Int32))])) _
                refine XS.icmpYes X119.here hx rfl (pc0 := 25) (pc' := 31) rfl (hb hby d1_25) rfl (feq hc25_120).2 (by decide) (by decide) ?_
                show Steps p.tables e below (T119.setTop (mkF m 31 #[.val (.int p1), .val (.ref a_ALL), .val (.int (7 : Int32)), .val (.int (5 : Int32)), .val (.ref a_VIEW)] [])) _
                exact k
              refine EndsQ.go (b := T119.setTop (mkF m 16 #[.val (.int p1), .val (.ref a_ALL), .val (.int (7 : Int32)), .val (.int (6 : Int32)), .val (.ref a_VIEW)] [(.int (6 : Int32)), (.ref a_ALL)])) (fun t k => ?_) ?_
              · show Steps p.tables e below (T119.setTop (mkF m 31 #[.val (.int p1), .val (.ref a_ALL), .val (.int (7 : Int32)), .val (.int (5 : Int32)), .val (.ref a_VIEW)] [])) _
                refine XS.iinc X119.here hx rfl (hb hby d1_31) rfl (l' := #[.val (.int p1), .val (.ref a_ALL), .val (.int (7 : Int32)), .val (.int ((5 : Int32) + Int32.ofInt 1)), .val (.ref a_VIEW)]) rfl ?_
                show Steps p.tables e below (T119.setTop (mkF m 34 #[.val (.int p1), .val (.ref a_ALL), .val (.int (7 : Int32)), .val (.int ((5 : Int32) + Int32.ofInt 1)), .val (.ref a_VIEW)] [])) _
                rw [(by decide : ((5 : Int32) + Int32.ofInt 1) = (6 : Int32))]
                show Steps p.tables e below (T119.setTop (mkF m 34 #[.val (.int p1), .val (.ref a_ALL), .val (.int (7 : Int32)), .val (.int (6 : Int32)), .val (.ref a_VIEW)] [])) _
                refine XS.goto X119.here hx rfl (pc0 := 34) (pc' := 9) rfl (hb hby d1_34) (by decide) (by decide) ?_
                show Steps p.tables e below (T119.setTop (mkF m 9 #[.val (.int p1), .val (.ref a_ALL), .val (.int (7 : Int32)), .val (.int (6 : Int32)), .val (.ref a_VIEW)] [])) _
                refine XS.iloadN X119.here hx rfl (hb hby d1_9) rfl ?_
                show Steps p.tables e below (T119.setTop (mkF m 10 #[.val (.int p1), .val (.ref a_ALL), .val (.int (7 : Int32)), .val (.int (6 : Int32)), .val (.ref a_VIEW)] [(.int (6 : Int32))])) _
                refine XS.iloadN X119.here hx rfl (hb hby d1_10) rfl ?_
                show Steps p.tables e below (T119.setTop (mkF m 11 #[.val (.int p1), .val (.ref a_ALL), .val (.int (7 : Int32)), .val (.int (6 : Int32)), .val (.ref a_VIEW)] [(.int (7 : Int32)), (.int (6 : Int32))])) _
                refine XS.icmpNo X119.here hx rfl (hb hby d1_11) rfl (tlt (by decide)).2.1 ?_
                show Steps p.tables e below (T119.setTop (mkF m 14 #[.val (.int p1), .val (.ref a_ALL), .val (.int (7 : Int32)), .val (.int (6 : Int32)), .val (.ref a_VIEW)] [])) _
                refine XS.aloadN X119.here hx rfl (hb hby d1_14) rfl rfl ?_
                show Steps p.tables e below (T119.setTop (mkF m 15 #[.val (.int p1), .val (.ref a_ALL), .val (.int (7 : Int32)), .val (.int (6 : Int32)), .val (.ref a_VIEW)] [(.ref a_ALL)])) _
                refine XS.iloadN X119.here hx rfl (hb hby d1_15) rfl ?_
                show Steps p.tables e below (T119.setTop (mkF m 16 #[.val (.int p1), .val (.ref a_ALL), .val (.int (7 : Int32)), .val (.int (6 : Int32)), .val (.ref a_VIEW)] [(.int (6 : Int32)), (.ref a_ALL)])) _
                exact k
              obtain ⟨cl121, Ar121, q121, S121, M121, H121, G121⟩ := id V_ALL
              have hin121 : ¬ ((6 : Int32) < 0 ∨ cl121.slots.size ≤ ((6 : Int32)).toNatClampNeg) := inb_of S121 ⟨by decide, by decide⟩
              have hat121 : cl121.slots[((6 : Int32)).toNatClampNeg]? = some (.ref a_RESYNC) := Has.at H121 hin121 rfl
              refine EndsQ.go (fun t k => X119.aaload hx (j := (6 : Int32)) (v := (.ref a_RESYNC)) (by rw [e119]; exact Ar121.1) (State.isArrayOf_alike hZ.alike Ar121.2.1) rfl Ar121.2.2 hin121 hat121 (g := (mkF m 16 #[.val (.int p1), .val (.ref a_ALL), .val (.int (7 : Int32)), .val (.int (6 : Int32)), .val (.ref a_VIEW)] [(.int (6 : Int32)), (.ref a_ALL)])) rfl rfl (hb hby d1_16) _ k) ?_
              show EndsQ _ _ _ _ _ _ _ (T119.setTop (mkF m 17 #[.val (.int p1), .val (.ref a_ALL), .val (.int (7 : Int32)), .val (.int (6 : Int32)), .val (.ref a_VIEW)] [(.ref a_RESYNC)]))
              refine EndsQ.go (b := T119.setTop (mkF m 21 #[.val (.int p1), .val (.ref a_ALL), .val (.int (7 : Int32)), .val (.int (6 : Int32)), .val (.ref a_RESYNC)] [(.ref a_RESYNC)])) (fun t k => ?_) ?_
              · show Steps p.tables e below (T119.setTop (mkF m 17 #[.val (.int p1), .val (.ref a_ALL), .val (.int (7 : Int32)), .val (.int (6 : Int32)), .val (.ref a_VIEW)] [(.ref a_RESYNC)])) _
                refine XS.astore X119.here hx rfl (hb hby d1_17) rfl rfl (l' := #[.val (.int p1), .val (.ref a_ALL), .val (.int (7 : Int32)), .val (.int (6 : Int32)), .val (.ref a_RESYNC)]) rfl ?_
                show Steps p.tables e below (T119.setTop (mkF m 19 #[.val (.int p1), .val (.ref a_ALL), .val (.int (7 : Int32)), .val (.int (6 : Int32)), .val (.ref a_RESYNC)] [])) _
                refine XS.aload X119.here hx rfl (hb hby d1_19) rfl rfl ?_
                show Steps p.tables e below (T119.setTop (mkF m 21 #[.val (.int p1), .val (.ref a_ALL), .val (.int (7 : Int32)), .val (.int (6 : Int32)), .val (.ref a_RESYNC)] [(.ref a_RESYNC)])) _
                exact k
              obtain ⟨T122, X122, e122, st122⟩ := getF X119 hx hZ hown (host := "") (Or.inl (hw _ (List.mem_of_getElem? (i := 7) rfl))) Via.refl e119 F_RESYNC_code (g := (mkF m 21 #[.val (.int p1), .val (.ref a_ALL), .val (.int (7 : Int32)), .val (.int (6 : Int32)), .val (.ref a_RESYNC)] [(.ref a_RESYNC)])) rfl rfl (hb hby d1_21)
              refine EndsQ.go st122 ?_
              show EndsQ _ _ _ _ _ _ _ (T122.setTop (mkF m 24 #[.val (.int p1), .val (.ref a_ALL), .val (.int (7 : Int32)), .val (.int (6 : Int32)), .val (.ref a_RESYNC)] [(.int (7 : Int32))]))
              refine EndsQ.go (b := T122.setTop (mkF m 25 #[.val (.int p1), .val (.ref a_ALL), .val (.int (7 : Int32)), .val (.int (6 : Int32)), .val (.ref a_RESYNC)] [(.int p1), (.int (7 : Int32))])) (fun t k => ?_) ?_
              · show Steps p.tables e below (T122.setTop (mkF m 24 #[.val (.int p1), .val (.ref a_ALL), .val (.int (7 : Int32)), .val (.int (6 : Int32)), .val (.ref a_RESYNC)] [(.int (7 : Int32))])) _
                refine XS.iloadN X122.here hx rfl (hb hby d1_24) rfl ?_
                show Steps p.tables e below (T122.setTop (mkF m 25 #[.val (.int p1), .val (.ref a_ALL), .val (.int (7 : Int32)), .val (.int (6 : Int32)), .val (.ref a_RESYNC)] [(.int p1), (.int (7 : Int32))])) _
                exact k
              by_cases hc25_123 : (7 : Int32) = p1
              · refine EndsQ.go (b := T122.setTop (mkF m 28 #[.val (.int p1), .val (.ref a_ALL), .val (.int (7 : Int32)), .val (.int (6 : Int32)), .val (.ref a_RESYNC)] [])) (fun t k => ?_) ?_
                · show Steps p.tables e below (T122.setTop (mkF m 25 #[.val (.int p1), .val (.ref a_ALL), .val (.int (7 : Int32)), .val (.int (6 : Int32)), .val (.ref a_RESYNC)] [(.int p1), (.int (7 : Int32))])) _
                  refine XS.icmpNo X122.here hx rfl (hb hby d1_25) rfl (teq hc25_123).2 ?_
                  show Steps p.tables e below (T122.setTop (mkF m 28 #[.val (.int p1), .val (.ref a_ALL), .val (.int (7 : Int32)), .val (.int (6 : Int32)), .val (.ref a_RESYNC)] [])) _
                  exact k
                refine EndsQ.go (b := T122.setTop (mkF m 30 #[.val (.int p1), .val (.ref a_ALL), .val (.int (7 : Int32)), .val (.int (6 : Int32)), .val (.ref a_RESYNC)] [(.ref a_RESYNC)])) (fun t k => ?_) ?_
                · show Steps p.tables e below (T122.setTop (mkF m 28 #[.val (.int p1), .val (.ref a_ALL), .val (.int (7 : Int32)), .val (.int (6 : Int32)), .val (.ref a_RESYNC)] [])) _
                  refine XS.aload X122.here hx rfl (hb hby d1_28) rfl rfl ?_
                  show Steps p.tables e below (T122.setTop (mkF m 30 #[.val (.int p1), .val (.ref a_ALL), .val (.int (7 : Int32)), .val (.int (6 : Int32)), .val (.ref a_RESYNC)] [(.ref a_RESYNC)])) _
                  exact k
                refine EndsQ.retA X122 hx Bd.notSynchronized (w := (.ref a_RESYNC)) Bd.returns rfl rfl rfl (hb hby d1_30) (by decide) (by decide) ?_
                show Q1 Z p1 a_ALL kA a_LOGIN a_ACCEPTED a_REFUSED a_MESSAGE a_LOGOUT a_VIEW a_RESYNC h0 n0 (some (.ref a_RESYNC)) T122.heap _
                rw [e122]
                exact ⟨by unfold own_of; rw [if_neg hc25_105, if_neg hc25_108, if_neg hc25_111, if_neg hc25_114, if_neg hc25_117, if_neg hc25_120, if_pos hc25_123], N0, rfl⟩
              · refine EndsQ.go (b := T122.setTop (mkF m 31 #[.val (.int p1), .val (.ref a_ALL), .val (.int (7 : Int32)), .val (.int (6 : Int32)), .val (.ref a_RESYNC)] [])) (fun t k => ?_) ?_
                · show Steps p.tables e below (T122.setTop (mkF m 25 #[.val (.int p1), .val (.ref a_ALL), .val (.int (7 : Int32)), .val (.int (6 : Int32)), .val (.ref a_RESYNC)] [(.int p1), (.int (7 : Int32))])) _
                  refine XS.icmpYes X122.here hx rfl (pc0 := 25) (pc' := 31) rfl (hb hby d1_25) rfl (feq hc25_123).2 (by decide) (by decide) ?_
                  show Steps p.tables e below (T122.setTop (mkF m 31 #[.val (.int p1), .val (.ref a_ALL), .val (.int (7 : Int32)), .val (.int (6 : Int32)), .val (.ref a_RESYNC)] [])) _
                  exact k
                refine EndsQ.go (b := T122.setTop (mkF m 38 #[.val (.int p1), .val (.ref a_ALL), .val (.int (7 : Int32)), .val (.int (7 : Int32)), .val (.ref a_RESYNC)] [.null])) (fun t k => ?_) ?_
                · show Steps p.tables e below (T122.setTop (mkF m 31 #[.val (.int p1), .val (.ref a_ALL), .val (.int (7 : Int32)), .val (.int (6 : Int32)), .val (.ref a_RESYNC)] [])) _
                  refine XS.iinc X122.here hx rfl (hb hby d1_31) rfl (l' := #[.val (.int p1), .val (.ref a_ALL), .val (.int (7 : Int32)), .val (.int ((6 : Int32) + Int32.ofInt 1)), .val (.ref a_RESYNC)]) rfl ?_
                  show Steps p.tables e below (T122.setTop (mkF m 34 #[.val (.int p1), .val (.ref a_ALL), .val (.int (7 : Int32)), .val (.int ((6 : Int32) + Int32.ofInt 1)), .val (.ref a_RESYNC)] [])) _
                  rw [(by decide : ((6 : Int32) + Int32.ofInt 1) = (7 : Int32))]
                  show Steps p.tables e below (T122.setTop (mkF m 34 #[.val (.int p1), .val (.ref a_ALL), .val (.int (7 : Int32)), .val (.int (7 : Int32)), .val (.ref a_RESYNC)] [])) _
                  refine XS.goto X122.here hx rfl (pc0 := 34) (pc' := 9) rfl (hb hby d1_34) (by decide) (by decide) ?_
                  show Steps p.tables e below (T122.setTop (mkF m 9 #[.val (.int p1), .val (.ref a_ALL), .val (.int (7 : Int32)), .val (.int (7 : Int32)), .val (.ref a_RESYNC)] [])) _
                  refine XS.iloadN X122.here hx rfl (hb hby d1_9) rfl ?_
                  show Steps p.tables e below (T122.setTop (mkF m 10 #[.val (.int p1), .val (.ref a_ALL), .val (.int (7 : Int32)), .val (.int (7 : Int32)), .val (.ref a_RESYNC)] [(.int (7 : Int32))])) _
                  refine XS.iloadN X122.here hx rfl (hb hby d1_10) rfl ?_
                  show Steps p.tables e below (T122.setTop (mkF m 11 #[.val (.int p1), .val (.ref a_ALL), .val (.int (7 : Int32)), .val (.int (7 : Int32)), .val (.ref a_RESYNC)] [(.int (7 : Int32)), (.int (7 : Int32))])) _
                  refine XS.icmpYes X122.here hx rfl (pc0 := 11) (pc' := 37) rfl (hb hby d1_11) rfl (flt (by decide)).2.1 (by decide) (by decide) ?_
                  show Steps p.tables e below (T122.setTop (mkF m 37 #[.val (.int p1), .val (.ref a_ALL), .val (.int (7 : Int32)), .val (.int (7 : Int32)), .val (.ref a_RESYNC)] [])) _
                  refine XS.aconstNull X122.here hx rfl (hb hby d1_37) ?_
                  show Steps p.tables e below (T122.setTop (mkF m 38 #[.val (.int p1), .val (.ref a_ALL), .val (.int (7 : Int32)), .val (.int (7 : Int32)), .val (.ref a_RESYNC)] [.null])) _
                  exact k
                refine EndsQ.retA X122 hx Bd.notSynchronized (w := .null) Bd.returns rfl rfl rfl (hb hby d1_38) (by decide) (by decide) ?_
                show Q1 Z p1 a_ALL kA a_LOGIN a_ACCEPTED a_REFUSED a_MESSAGE a_LOGOUT a_VIEW a_RESYNC h0 n0 (some .null) T122.heap _
                rw [e122]
                exact ⟨by unfold own_of; rw [if_neg hc25_105, if_neg hc25_108, if_neg hc25_111, if_neg hc25_114, if_neg hc25_117, if_neg hc25_120, if_neg hc25_123], N0, rfl⟩
theorem ef_2 (m : MethodId) (x0 : Int32) : entryFrame m #[(.int x0)] 1 = mkF m 0 #[.val (.int x0)] [] := by first | (simp [entryFrame, mkF, argsToLocals, Value.category]; done) | rfl
def Q2 (Z : State) (p1 : Int32) (a_LOGIN : Addr) (a_ACCEPTED : Addr) (a_REFUSED : Addr) (a_MESSAGE : Addr) (a_LOGOUT : Addr) (a_VIEW : Addr) (a_RESYNC : Addr) (h0 : Heap) (n0 : Nat) (v : Option Value) (h : Heap) (L : List Loc) : Prop := v = some (own_exp p1 a_LOGIN a_ACCEPTED a_REFUSED a_MESSAGE a_LOGOUT a_VIEW a_RESYNC) ∧ Fr n0 L ∧ h = h0
set_option maxRecDepth 65536 in
set_option maxHeartbeats 40000000 in
theorem rm2 (l : Launch) (Z : State) (a0 : Array Value) (hw : ∀ d ∈ tables_1, d.before a0 Z = true) (ws : List Jvm.Cond) (p1 : Int32) (a_LOGIN : Addr) (a_ACCEPTED : Addr) (a_REFUSED : Addr) (a_MESSAGE : Addr) (a_LOGOUT : Addr) (a_VIEW : Addr) (a_RESYNC : Addr) (h0 : Heap) (n0 : Nat) (Z0 : n0 ≤ h0.size) (S_LOGIN : Sta Z h0 "moorholt/net/Frame$Kind" "LOGIN" "Lmoorholt/net/Frame$Kind;" (.ref a_LOGIN)) (S_ACCEPTED : Sta Z h0 "moorholt/net/Frame$Kind" "ACCEPTED" "Lmoorholt/net/Frame$Kind;" (.ref a_ACCEPTED)) (S_REFUSED : Sta Z h0 "moorholt/net/Frame$Kind" "REFUSED" "Lmoorholt/net/Frame$Kind;" (.ref a_REFUSED)) (S_MESSAGE : Sta Z h0 "moorholt/net/Frame$Kind" "MESSAGE" "Lmoorholt/net/Frame$Kind;" (.ref a_MESSAGE)) (S_LOGOUT : Sta Z h0 "moorholt/net/Frame$Kind" "LOGOUT" "Lmoorholt/net/Frame$Kind;" (.ref a_LOGOUT)) (S_VIEW : Sta Z h0 "moorholt/net/Frame$Kind" "VIEW" "Lmoorholt/net/Frame$Kind;" (.ref a_VIEW)) (S_RESYNC : Sta Z h0 "moorholt/net/Frame$Kind" "RESYNC" "Lmoorholt/net/Frame$Kind;" (.ref a_RESYNC)) :
    MetFree l (⟨"moorholt/net/FrameOfPinLaw", "expected", "(I)Lmoorholt/net/Frame$Kind;"⟩ : MethodName) (head1 (Jvm.Cond.code (⟨"moorholt/net/FrameOfPinLaw", "expected", "(I)Lmoorholt/net/Frame$Kind;"⟩ : MethodName) method_2_code 1 (some (.object "moorholt/net/Frame$Kind")) :: ws) ({ frames := 0, cells := 0, slots := 0, locals := 0 } : Room)) (fun a U => a = #[(.int p1)] ∧ Z.Warmed39 U.vm ∧ U.heap = h0) (fun _ _ _ _ _ => True) (fun _ U o U' => ∃ v L, o = .returned v ∧ Q2 Z p1 a_LOGIN a_ACCEPTED a_REFUSED a_MESSAGE a_LOGOUT a_VIEW a_RESYNC h0 n0 v U'.heap L ∧ FrameEnd U o U' L ({ frames := 0, cells := 0, slots := 0, locals := 0 } : Room).cells ({ frames := 0, cells := 0, slots := 0, locals := 0 } : Room).slots) := by
  refine MetFree.of_bodySF (plainFor_of_name pn_2) hisR ?_
  intro p e s m args below meth c s₁ Bd hml0 hP hK
  obtain ⟨rfl, hZ, hh⟩ := hP
  have hx := Bd.exec
  have hby := Bd.bytes
  have hml : c.maxLocals = 1 := hml0
  have hown : s.vm.findClass "moorholt/net/FrameOfPinLaw" = some m.cls := findClass_of_methodNamed Bd.named
  have hnm := (name_of_methodNamed Bd.named Bd.method).1
  have X0 : Stand p l e ({ frames := 0, cells := 0, slots := 0, locals := 0 } : Room) s m #[(.int p1)] below meth c s₁ [] 0 0 := Stand.of_body Bd
  have e0 : s₁.heap = h0 := by rw [← hh, Bd.state]; rfl
  have N0 := Fr.nil n0
  show EndsQ p.tables e below s (fun v h L => Q2 Z p1 a_LOGIN a_ACCEPTED a_REFUSED a_MESSAGE a_LOGOUT a_VIEW a_RESYNC h0 n0 v h L) ({ frames := 0, cells := 0, slots := 0, locals := 0 } : Room).cells ({ frames := 0, cells := 0, slots := 0, locals := 0 } : Room).slots _
  refine EndsQ.go (b := s₁.setTop (mkF m 0 #[.val (.int p1)] [])) (fun t k => castTop (ef_2 m p1) k) ?_
  refine EndsQ.go (b := s₁.setTop (mkF m 2 #[.val (.int p1)] [(.int (1 : Int32)), (.int p1)])) (fun t k => ?_) ?_
  · show Steps p.tables e below (s₁.setTop (mkF m 0 #[.val (.int p1)] [])) _
    refine XS.iloadN X0.here hx rfl (hb hby d2_0) rfl ?_
    show Steps p.tables e below (s₁.setTop (mkF m 1 #[.val (.int p1)] [(.int p1)])) _
    refine XS.iconst X0.here hx rfl (hb hby d2_1) ?_
    show Steps p.tables e below (s₁.setTop (mkF m 2 #[.val (.int p1)] [(.int (1 : Int32)), (.int p1)])) _
    exact k
  by_cases hc2_101 : p1 = (1 : Int32)
  · refine EndsQ.go (b := s₁.setTop (mkF m 5 #[.val (.int p1)] [])) (fun t k => ?_) ?_
    · show Steps p.tables e below (s₁.setTop (mkF m 2 #[.val (.int p1)] [(.int (1 : Int32)), (.int p1)])) _
      refine XS.icmpNo X0.here hx rfl (hb hby d2_2) rfl (teq hc2_101).2 ?_
      show Steps p.tables e below (s₁.setTop (mkF m 5 #[.val (.int p1)] [])) _
      exact k
    obtain ⟨T102, X102, e102, st102⟩ := getS X0 hx hZ hown (host := "") (hw _ (List.mem_of_getElem? (i := 22) rfl)) Via.refl e0 S_LOGIN (g := (mkF m 5 #[.val (.int p1)] [])) rfl (hb hby d2_5)
    refine EndsQ.go st102 ?_
    show EndsQ _ _ _ _ _ _ _ (T102.setTop (mkF m 8 #[.val (.int p1)] [(.ref a_LOGIN)]))
    refine EndsQ.retA X102 hx Bd.notSynchronized (w := (.ref a_LOGIN)) Bd.returns rfl rfl rfl (hb hby d2_8) (by decide) (by decide) ?_
    show Q2 Z p1 a_LOGIN a_ACCEPTED a_REFUSED a_MESSAGE a_LOGOUT a_VIEW a_RESYNC h0 n0 (some (.ref a_LOGIN)) T102.heap _
    rw [e102]
    exact ⟨by unfold own_exp; rw [if_pos hc2_101], N0, rfl⟩
  · refine EndsQ.go (b := s₁.setTop (mkF m 9 #[.val (.int p1)] [])) (fun t k => ?_) ?_
    · show Steps p.tables e below (s₁.setTop (mkF m 2 #[.val (.int p1)] [(.int (1 : Int32)), (.int p1)])) _
      refine XS.icmpYes X0.here hx rfl (pc0 := 2) (pc' := 9) rfl (hb hby d2_2) rfl (feq hc2_101).2 (by decide) (by decide) ?_
      show Steps p.tables e below (s₁.setTop (mkF m 9 #[.val (.int p1)] [])) _
      exact k
    refine EndsQ.go (b := s₁.setTop (mkF m 11 #[.val (.int p1)] [(.int (2 : Int32)), (.int p1)])) (fun t k => ?_) ?_
    · show Steps p.tables e below (s₁.setTop (mkF m 9 #[.val (.int p1)] [])) _
      refine XS.iloadN X0.here hx rfl (hb hby d2_9) rfl ?_
      show Steps p.tables e below (s₁.setTop (mkF m 10 #[.val (.int p1)] [(.int p1)])) _
      refine XS.iconst X0.here hx rfl (hb hby d2_10) ?_
      show Steps p.tables e below (s₁.setTop (mkF m 11 #[.val (.int p1)] [(.int (2 : Int32)), (.int p1)])) _
      exact k
    by_cases hc11_103 : p1 = (2 : Int32)
    · refine EndsQ.go (b := s₁.setTop (mkF m 14 #[.val (.int p1)] [])) (fun t k => ?_) ?_
      · show Steps p.tables e below (s₁.setTop (mkF m 11 #[.val (.int p1)] [(.int (2 : Int32)), (.int p1)])) _
        refine XS.icmpNo X0.here hx rfl (hb hby d2_11) rfl (teq hc11_103).2 ?_
        show Steps p.tables e below (s₁.setTop (mkF m 14 #[.val (.int p1)] [])) _
        exact k
      obtain ⟨T104, X104, e104, st104⟩ := getS X0 hx hZ hown (host := "") (hw _ (List.mem_of_getElem? (i := 21) rfl)) Via.refl e0 S_ACCEPTED (g := (mkF m 14 #[.val (.int p1)] [])) rfl (hb hby d2_14)
      refine EndsQ.go st104 ?_
      show EndsQ _ _ _ _ _ _ _ (T104.setTop (mkF m 17 #[.val (.int p1)] [(.ref a_ACCEPTED)]))
      refine EndsQ.retA X104 hx Bd.notSynchronized (w := (.ref a_ACCEPTED)) Bd.returns rfl rfl rfl (hb hby d2_17) (by decide) (by decide) ?_
      show Q2 Z p1 a_LOGIN a_ACCEPTED a_REFUSED a_MESSAGE a_LOGOUT a_VIEW a_RESYNC h0 n0 (some (.ref a_ACCEPTED)) T104.heap _
      rw [e104]
      exact ⟨by unfold own_exp; rw [if_neg hc2_101, if_pos hc11_103], N0, rfl⟩
    · refine EndsQ.go (b := s₁.setTop (mkF m 18 #[.val (.int p1)] [])) (fun t k => ?_) ?_
      · show Steps p.tables e below (s₁.setTop (mkF m 11 #[.val (.int p1)] [(.int (2 : Int32)), (.int p1)])) _
        refine XS.icmpYes X0.here hx rfl (pc0 := 11) (pc' := 18) rfl (hb hby d2_11) rfl (feq hc11_103).2 (by decide) (by decide) ?_
        show Steps p.tables e below (s₁.setTop (mkF m 18 #[.val (.int p1)] [])) _
        exact k
      refine EndsQ.go (b := s₁.setTop (mkF m 20 #[.val (.int p1)] [(.int (3 : Int32)), (.int p1)])) (fun t k => ?_) ?_
      · show Steps p.tables e below (s₁.setTop (mkF m 18 #[.val (.int p1)] [])) _
        refine XS.iloadN X0.here hx rfl (hb hby d2_18) rfl ?_
        show Steps p.tables e below (s₁.setTop (mkF m 19 #[.val (.int p1)] [(.int p1)])) _
        refine XS.iconst X0.here hx rfl (hb hby d2_19) ?_
        show Steps p.tables e below (s₁.setTop (mkF m 20 #[.val (.int p1)] [(.int (3 : Int32)), (.int p1)])) _
        exact k
      by_cases hc20_105 : p1 = (3 : Int32)
      · refine EndsQ.go (b := s₁.setTop (mkF m 23 #[.val (.int p1)] [])) (fun t k => ?_) ?_
        · show Steps p.tables e below (s₁.setTop (mkF m 20 #[.val (.int p1)] [(.int (3 : Int32)), (.int p1)])) _
          refine XS.icmpNo X0.here hx rfl (hb hby d2_20) rfl (teq hc20_105).2 ?_
          show Steps p.tables e below (s₁.setTop (mkF m 23 #[.val (.int p1)] [])) _
          exact k
        obtain ⟨T106, X106, e106, st106⟩ := getS X0 hx hZ hown (host := "") (hw _ (List.mem_of_getElem? (i := 19) rfl)) Via.refl e0 S_REFUSED (g := (mkF m 23 #[.val (.int p1)] [])) rfl (hb hby d2_23)
        refine EndsQ.go st106 ?_
        show EndsQ _ _ _ _ _ _ _ (T106.setTop (mkF m 26 #[.val (.int p1)] [(.ref a_REFUSED)]))
        refine EndsQ.retA X106 hx Bd.notSynchronized (w := (.ref a_REFUSED)) Bd.returns rfl rfl rfl (hb hby d2_26) (by decide) (by decide) ?_
        show Q2 Z p1 a_LOGIN a_ACCEPTED a_REFUSED a_MESSAGE a_LOGOUT a_VIEW a_RESYNC h0 n0 (some (.ref a_REFUSED)) T106.heap _
        rw [e106]
        exact ⟨by unfold own_exp; rw [if_neg hc2_101, if_neg hc11_103, if_pos hc20_105], N0, rfl⟩
      · refine EndsQ.go (b := s₁.setTop (mkF m 27 #[.val (.int p1)] [])) (fun t k => ?_) ?_
        · show Steps p.tables e below (s₁.setTop (mkF m 20 #[.val (.int p1)] [(.int (3 : Int32)), (.int p1)])) _
          refine XS.icmpYes X0.here hx rfl (pc0 := 20) (pc' := 27) rfl (hb hby d2_20) rfl (feq hc20_105).2 (by decide) (by decide) ?_
          show Steps p.tables e below (s₁.setTop (mkF m 27 #[.val (.int p1)] [])) _
          exact k
        refine EndsQ.go (b := s₁.setTop (mkF m 29 #[.val (.int p1)] [(.int (4 : Int32)), (.int p1)])) (fun t k => ?_) ?_
        · show Steps p.tables e below (s₁.setTop (mkF m 27 #[.val (.int p1)] [])) _
          refine XS.iloadN X0.here hx rfl (hb hby d2_27) rfl ?_
          show Steps p.tables e below (s₁.setTop (mkF m 28 #[.val (.int p1)] [(.int p1)])) _
          refine XS.iconst X0.here hx rfl (hb hby d2_28) ?_
          show Steps p.tables e below (s₁.setTop (mkF m 29 #[.val (.int p1)] [(.int (4 : Int32)), (.int p1)])) _
          exact k
        by_cases hc29_107 : p1 = (4 : Int32)
        · refine EndsQ.go (b := s₁.setTop (mkF m 32 #[.val (.int p1)] [])) (fun t k => ?_) ?_
          · show Steps p.tables e below (s₁.setTop (mkF m 29 #[.val (.int p1)] [(.int (4 : Int32)), (.int p1)])) _
            refine XS.icmpNo X0.here hx rfl (hb hby d2_29) rfl (teq hc29_107).2 ?_
            show Steps p.tables e below (s₁.setTop (mkF m 32 #[.val (.int p1)] [])) _
            exact k
          obtain ⟨T108, X108, e108, st108⟩ := getS X0 hx hZ hown (host := "") (hw _ (List.mem_of_getElem? (i := 25) rfl)) Via.refl e0 S_MESSAGE (g := (mkF m 32 #[.val (.int p1)] [])) rfl (hb hby d2_32)
          refine EndsQ.go st108 ?_
          show EndsQ _ _ _ _ _ _ _ (T108.setTop (mkF m 35 #[.val (.int p1)] [(.ref a_MESSAGE)]))
          refine EndsQ.retA X108 hx Bd.notSynchronized (w := (.ref a_MESSAGE)) Bd.returns rfl rfl rfl (hb hby d2_35) (by decide) (by decide) ?_
          show Q2 Z p1 a_LOGIN a_ACCEPTED a_REFUSED a_MESSAGE a_LOGOUT a_VIEW a_RESYNC h0 n0 (some (.ref a_MESSAGE)) T108.heap _
          rw [e108]
          exact ⟨by unfold own_exp; rw [if_neg hc2_101, if_neg hc11_103, if_neg hc20_105, if_pos hc29_107], N0, rfl⟩
        · refine EndsQ.go (b := s₁.setTop (mkF m 36 #[.val (.int p1)] [])) (fun t k => ?_) ?_
          · show Steps p.tables e below (s₁.setTop (mkF m 29 #[.val (.int p1)] [(.int (4 : Int32)), (.int p1)])) _
            refine XS.icmpYes X0.here hx rfl (pc0 := 29) (pc' := 36) rfl (hb hby d2_29) rfl (feq hc29_107).2 (by decide) (by decide) ?_
            show Steps p.tables e below (s₁.setTop (mkF m 36 #[.val (.int p1)] [])) _
            exact k
          refine EndsQ.go (b := s₁.setTop (mkF m 38 #[.val (.int p1)] [(.int (5 : Int32)), (.int p1)])) (fun t k => ?_) ?_
          · show Steps p.tables e below (s₁.setTop (mkF m 36 #[.val (.int p1)] [])) _
            refine XS.iloadN X0.here hx rfl (hb hby d2_36) rfl ?_
            show Steps p.tables e below (s₁.setTop (mkF m 37 #[.val (.int p1)] [(.int p1)])) _
            refine XS.iconst X0.here hx rfl (hb hby d2_37) ?_
            show Steps p.tables e below (s₁.setTop (mkF m 38 #[.val (.int p1)] [(.int (5 : Int32)), (.int p1)])) _
            exact k
          by_cases hc38_109 : p1 = (5 : Int32)
          · refine EndsQ.go (b := s₁.setTop (mkF m 41 #[.val (.int p1)] [])) (fun t k => ?_) ?_
            · show Steps p.tables e below (s₁.setTop (mkF m 38 #[.val (.int p1)] [(.int (5 : Int32)), (.int p1)])) _
              refine XS.icmpNo X0.here hx rfl (hb hby d2_38) rfl (teq hc38_109).2 ?_
              show Steps p.tables e below (s₁.setTop (mkF m 41 #[.val (.int p1)] [])) _
              exact k
            obtain ⟨T110, X110, e110, st110⟩ := getS X0 hx hZ hown (host := "") (hw _ (List.mem_of_getElem? (i := 24) rfl)) Via.refl e0 S_LOGOUT (g := (mkF m 41 #[.val (.int p1)] [])) rfl (hb hby d2_41)
            refine EndsQ.go st110 ?_
            show EndsQ _ _ _ _ _ _ _ (T110.setTop (mkF m 44 #[.val (.int p1)] [(.ref a_LOGOUT)]))
            refine EndsQ.retA X110 hx Bd.notSynchronized (w := (.ref a_LOGOUT)) Bd.returns rfl rfl rfl (hb hby d2_44) (by decide) (by decide) ?_
            show Q2 Z p1 a_LOGIN a_ACCEPTED a_REFUSED a_MESSAGE a_LOGOUT a_VIEW a_RESYNC h0 n0 (some (.ref a_LOGOUT)) T110.heap _
            rw [e110]
            exact ⟨by unfold own_exp; rw [if_neg hc2_101, if_neg hc11_103, if_neg hc20_105, if_neg hc29_107, if_pos hc38_109], N0, rfl⟩
          · refine EndsQ.go (b := s₁.setTop (mkF m 45 #[.val (.int p1)] [])) (fun t k => ?_) ?_
            · show Steps p.tables e below (s₁.setTop (mkF m 38 #[.val (.int p1)] [(.int (5 : Int32)), (.int p1)])) _
              refine XS.icmpYes X0.here hx rfl (pc0 := 38) (pc' := 45) rfl (hb hby d2_38) rfl (feq hc38_109).2 (by decide) (by decide) ?_
              show Steps p.tables e below (s₁.setTop (mkF m 45 #[.val (.int p1)] [])) _
              exact k
            refine EndsQ.go (b := s₁.setTop (mkF m 48 #[.val (.int p1)] [(.int (6 : Int32)), (.int p1)])) (fun t k => ?_) ?_
            · show Steps p.tables e below (s₁.setTop (mkF m 45 #[.val (.int p1)] [])) _
              refine XS.iloadN X0.here hx rfl (hb hby d2_45) rfl ?_
              show Steps p.tables e below (s₁.setTop (mkF m 46 #[.val (.int p1)] [(.int p1)])) _
              refine XS.bipush X0.here hx rfl (hb hby d2_46) ?_
              show Steps p.tables e below (s₁.setTop (mkF m 48 #[.val (.int p1)] [(.int (6 : Int32)), (.int p1)])) _
              exact k
            by_cases hc48_111 : p1 = (6 : Int32)
            · refine EndsQ.go (b := s₁.setTop (mkF m 51 #[.val (.int p1)] [])) (fun t k => ?_) ?_
              · show Steps p.tables e below (s₁.setTop (mkF m 48 #[.val (.int p1)] [(.int (6 : Int32)), (.int p1)])) _
                refine XS.icmpNo X0.here hx rfl (hb hby d2_48) rfl (teq hc48_111).2 ?_
                show Steps p.tables e below (s₁.setTop (mkF m 51 #[.val (.int p1)] [])) _
                exact k
              obtain ⟨T112, X112, e112, st112⟩ := getS X0 hx hZ hown (host := "") (hw _ (List.mem_of_getElem? (i := 23) rfl)) Via.refl e0 S_VIEW (g := (mkF m 51 #[.val (.int p1)] [])) rfl (hb hby d2_51)
              refine EndsQ.go st112 ?_
              show EndsQ _ _ _ _ _ _ _ (T112.setTop (mkF m 54 #[.val (.int p1)] [(.ref a_VIEW)]))
              refine EndsQ.retA X112 hx Bd.notSynchronized (w := (.ref a_VIEW)) Bd.returns rfl rfl rfl (hb hby d2_54) (by decide) (by decide) ?_
              show Q2 Z p1 a_LOGIN a_ACCEPTED a_REFUSED a_MESSAGE a_LOGOUT a_VIEW a_RESYNC h0 n0 (some (.ref a_VIEW)) T112.heap _
              rw [e112]
              exact ⟨by unfold own_exp; rw [if_neg hc2_101, if_neg hc11_103, if_neg hc20_105, if_neg hc29_107, if_neg hc38_109, if_pos hc48_111], N0, rfl⟩
            · refine EndsQ.go (b := s₁.setTop (mkF m 55 #[.val (.int p1)] [])) (fun t k => ?_) ?_
              · show Steps p.tables e below (s₁.setTop (mkF m 48 #[.val (.int p1)] [(.int (6 : Int32)), (.int p1)])) _
                refine XS.icmpYes X0.here hx rfl (pc0 := 48) (pc' := 55) rfl (hb hby d2_48) rfl (feq hc48_111).2 (by decide) (by decide) ?_
                show Steps p.tables e below (s₁.setTop (mkF m 55 #[.val (.int p1)] [])) _
                exact k
              refine EndsQ.go (b := s₁.setTop (mkF m 58 #[.val (.int p1)] [(.int (7 : Int32)), (.int p1)])) (fun t k => ?_) ?_
              · show Steps p.tables e below (s₁.setTop (mkF m 55 #[.val (.int p1)] [])) _
                refine XS.iloadN X0.here hx rfl (hb hby d2_55) rfl ?_
                show Steps p.tables e below (s₁.setTop (mkF m 56 #[.val (.int p1)] [(.int p1)])) _
                refine XS.bipush X0.here hx rfl (hb hby d2_56) ?_
                show Steps p.tables e below (s₁.setTop (mkF m 58 #[.val (.int p1)] [(.int (7 : Int32)), (.int p1)])) _
                exact k
              by_cases hc58_113 : p1 = (7 : Int32)
              · refine EndsQ.go (b := s₁.setTop (mkF m 61 #[.val (.int p1)] [])) (fun t k => ?_) ?_
                · show Steps p.tables e below (s₁.setTop (mkF m 58 #[.val (.int p1)] [(.int (7 : Int32)), (.int p1)])) _
                  refine XS.icmpNo X0.here hx rfl (hb hby d2_58) rfl (teq hc58_113).2 ?_
                  show Steps p.tables e below (s₁.setTop (mkF m 61 #[.val (.int p1)] [])) _
                  exact k
                obtain ⟨T114, X114, e114, st114⟩ := getS X0 hx hZ hown (host := "") (hw _ (List.mem_of_getElem? (i := 20) rfl)) Via.refl e0 S_RESYNC (g := (mkF m 61 #[.val (.int p1)] [])) rfl (hb hby d2_61)
                refine EndsQ.go st114 ?_
                show EndsQ _ _ _ _ _ _ _ (T114.setTop (mkF m 64 #[.val (.int p1)] [(.ref a_RESYNC)]))
                refine EndsQ.retA X114 hx Bd.notSynchronized (w := (.ref a_RESYNC)) Bd.returns rfl rfl rfl (hb hby d2_64) (by decide) (by decide) ?_
                show Q2 Z p1 a_LOGIN a_ACCEPTED a_REFUSED a_MESSAGE a_LOGOUT a_VIEW a_RESYNC h0 n0 (some (.ref a_RESYNC)) T114.heap _
                rw [e114]
                exact ⟨by unfold own_exp; rw [if_neg hc2_101, if_neg hc11_103, if_neg hc20_105, if_neg hc29_107, if_neg hc38_109, if_neg hc48_111, if_pos hc58_113], N0, rfl⟩
              · refine EndsQ.go (b := s₁.setTop (mkF m 65 #[.val (.int p1)] [])) (fun t k => ?_) ?_
                · show Steps p.tables e below (s₁.setTop (mkF m 58 #[.val (.int p1)] [(.int (7 : Int32)), (.int p1)])) _
                  refine XS.icmpYes X0.here hx rfl (pc0 := 58) (pc' := 65) rfl (hb hby d2_58) rfl (feq hc58_113).2 (by decide) (by decide) ?_
                  show Steps p.tables e below (s₁.setTop (mkF m 65 #[.val (.int p1)] [])) _
                  exact k
                refine EndsQ.go (b := s₁.setTop (mkF m 66 #[.val (.int p1)] [.null])) (fun t k => ?_) ?_
                · show Steps p.tables e below (s₁.setTop (mkF m 65 #[.val (.int p1)] [])) _
                  refine XS.aconstNull X0.here hx rfl (hb hby d2_65) ?_
                  show Steps p.tables e below (s₁.setTop (mkF m 66 #[.val (.int p1)] [.null])) _
                  exact k
                refine EndsQ.retA X0 hx Bd.notSynchronized (w := .null) Bd.returns rfl rfl rfl (hb hby d2_66) (by decide) (by decide) ?_
                show Q2 Z p1 a_LOGIN a_ACCEPTED a_REFUSED a_MESSAGE a_LOGOUT a_VIEW a_RESYNC h0 n0 (some .null) s₁.heap _
                rw [e0]
                exact ⟨by unfold own_exp; rw [if_neg hc2_101, if_neg hc11_103, if_neg hc20_105, if_neg hc29_107, if_neg hc38_109, if_neg hc48_111, if_neg hc58_113], N0, rfl⟩
theorem ef_0 (m : MethodId) (x0 : Int32) : entryFrame m #[(.int x0)] maxLocals = mkF m 0 #[.val (.int x0), .unset, .unset] [] := by first | (simp [entryFrame, mkF, argsToLocals, Value.category, maxLocals]; done) | rfl
def Q0 (Z : State) (p1 : Int32) (a_ALL : Addr) (kA : ClassId) (a_LOGIN : Addr) (a_ACCEPTED : Addr) (a_REFUSED : Addr) (a_MESSAGE : Addr) (a_LOGOUT : Addr) (a_VIEW : Addr) (a_RESYNC : Addr) (h0 : Heap) (n0 : Nat) (v : Option Value) (h : Heap) (L : List Loc) : Prop := v = some (.int 1) ∧ Fr n0 L
set_option maxRecDepth 65536 in
set_option maxHeartbeats 40000000 in
theorem rm0 (l : Launch) (Z : State) (a0 : Array Value) (hw : ∀ d ∈ tables_1, d.before a0 Z = true) (ws : List Jvm.Cond) (p1 : Int32) (a_ALL : Addr) (kA : ClassId) (a_LOGIN : Addr) (a_ACCEPTED : Addr) (a_REFUSED : Addr) (a_MESSAGE : Addr) (a_LOGOUT : Addr) (a_VIEW : Addr) (a_RESYNC : Addr) (h0 : Heap) (n0 : Nat) (Z0 : n0 ≤ h0.size) (S_ALL : Sta Z h0 "moorholt/net/Frame$Kind" "ALL" "[Lmoorholt/net/Frame$Kind;" (.ref a_ALL)) (V_ALL : Arv Z h0 a_ALL kA (.object "moorholt/net/Frame$Kind") (7 : Int32) [(.ref a_LOGIN), (.ref a_ACCEPTED), (.ref a_REFUSED), (.ref a_MESSAGE), (.ref a_LOGOUT), (.ref a_VIEW), (.ref a_RESYNC)] .null) (F_LOGIN_code : Fld Z h0 a_LOGIN "moorholt/net/Frame$Kind" "code" "B" (.int (1 : Int32))) (F_ACCEPTED_code : Fld Z h0 a_ACCEPTED "moorholt/net/Frame$Kind" "code" "B" (.int (2 : Int32))) (F_REFUSED_code : Fld Z h0 a_REFUSED "moorholt/net/Frame$Kind" "code" "B" (.int (3 : Int32))) (F_MESSAGE_code : Fld Z h0 a_MESSAGE "moorholt/net/Frame$Kind" "code" "B" (.int (4 : Int32))) (F_LOGOUT_code : Fld Z h0 a_LOGOUT "moorholt/net/Frame$Kind" "code" "B" (.int (5 : Int32))) (F_VIEW_code : Fld Z h0 a_VIEW "moorholt/net/Frame$Kind" "code" "B" (.int (6 : Int32))) (F_RESYNC_code : Fld Z h0 a_RESYNC "moorholt/net/Frame$Kind" "code" "B" (.int (7 : Int32))) (S_LOGIN : Sta Z h0 "moorholt/net/Frame$Kind" "LOGIN" "Lmoorholt/net/Frame$Kind;" (.ref a_LOGIN)) (S_ACCEPTED : Sta Z h0 "moorholt/net/Frame$Kind" "ACCEPTED" "Lmoorholt/net/Frame$Kind;" (.ref a_ACCEPTED)) (S_REFUSED : Sta Z h0 "moorholt/net/Frame$Kind" "REFUSED" "Lmoorholt/net/Frame$Kind;" (.ref a_REFUSED)) (S_MESSAGE : Sta Z h0 "moorholt/net/Frame$Kind" "MESSAGE" "Lmoorholt/net/Frame$Kind;" (.ref a_MESSAGE)) (S_LOGOUT : Sta Z h0 "moorholt/net/Frame$Kind" "LOGOUT" "Lmoorholt/net/Frame$Kind;" (.ref a_LOGOUT)) (S_VIEW : Sta Z h0 "moorholt/net/Frame$Kind" "VIEW" "Lmoorholt/net/Frame$Kind;" (.ref a_VIEW)) (S_RESYNC : Sta Z h0 "moorholt/net/Frame$Kind" "RESYNC" "Lmoorholt/net/Frame$Kind;" (.ref a_RESYNC)) :
    MetFree l x (head1 (Jvm.Cond.code x code maxLocals ret :: ws) room_1) (fun a U => a = #[(.int p1)] ∧ Z.Warmed39 U.vm ∧ U.heap = h0) (fun _ _ _ _ _ => True) (fun _ U o U' => ∃ v L, o = .returned v ∧ Q0 Z p1 a_ALL kA a_LOGIN a_ACCEPTED a_REFUSED a_MESSAGE a_LOGOUT a_VIEW a_RESYNC h0 n0 v U'.heap L ∧ FrameEnd U o U' L 0 0) := by
  refine MetFree.of_bodySF (plainFor_of_name pn_0) hisR ?_
  intro p e s m args below meth c s₁ Bd hml0 hP hK
  obtain ⟨rfl, hZ, hh⟩ := hP
  have hx := Bd.exec
  have hby := Bd.bytes
  have hml : c.maxLocals = 3 := hml0
  have hown : s.vm.findClass "moorholt/net/FrameOfPinLaw" = some m.cls := findClass_of_methodNamed Bd.named
  have hnm := (name_of_methodNamed Bd.named Bd.method).1
  have X0 : Stand p l e room_1 s m #[(.int p1)] below meth c s₁ [] 0 0 := Stand.of_body Bd
  have e0 : s₁.heap = h0 := by rw [← hh, Bd.state]; rfl
  have N0 := Fr.nil n0
  show EndsQ p.tables e below s (fun v h L => Q0 Z p1 a_ALL kA a_LOGIN a_ACCEPTED a_REFUSED a_MESSAGE a_LOGOUT a_VIEW a_RESYNC h0 n0 v h L) 0 0 _
  refine EndsQ.go (b := s₁.setTop (mkF m 0 #[.val (.int p1), .unset, .unset] [])) (fun t k => castTop (ef_0 m p1) k) ?_
  refine EndsQ.go (b := s₁.setTop (mkF m 3 #[.val (.int p1), .val (.int (p1.toInt8.toInt32)), .unset] [])) (fun t k => ?_) ?_
  · show Steps p.tables e below (s₁.setTop (mkF m 0 #[.val (.int p1), .unset, .unset] [])) _
    refine XS.iloadN X0.here hx rfl (hb hby at_0) rfl ?_
    show Steps p.tables e below (s₁.setTop (mkF m 1 #[.val (.int p1), .unset, .unset] [(.int p1)])) _
    refine XS.i2b X0.here hx rfl (hb hby at_1) rfl ?_
    show Steps p.tables e below (s₁.setTop (mkF m 2 #[.val (.int p1), .unset, .unset] [(.int (p1.toInt8.toInt32))])) _
    refine XS.istoreN X0.here hx rfl (hb hby at_2) rfl (l' := #[.val (.int p1), .val (.int (p1.toInt8.toInt32)), .unset]) rfl ?_
    show Steps p.tables e below (s₁.setTop (mkF m 3 #[.val (.int p1), .val (.int (p1.toInt8.toInt32)), .unset] [])) _
    exact k
  generalize hv_bb : (p1.toInt8.toInt32) = bb
  show EndsQ _ _ _ _ _ _ _ (s₁.setTop (mkF m 3 #[.val (.int p1), .val (.int bb), .unset] []))
  refine EndsQ.go (b := s₁.setTop (mkF m 4 #[.val (.int p1), .val (.int bb), .unset] [(.int bb)])) (fun t k => ?_) ?_
  · show Steps p.tables e below (s₁.setTop (mkF m 3 #[.val (.int p1), .val (.int bb), .unset] [])) _
    refine XS.iloadN X0.here hx rfl (hb hby at_3) rfl ?_
    show Steps p.tables e below (s₁.setTop (mkF m 4 #[.val (.int p1), .val (.int bb), .unset] [(.int bb)])) _
    exact k
  obtain ⟨_, _, ⟨T101, L101, kk101, nn101⟩, -, X101, ⟨Lc101, hQ101, l101, y101, z101⟩, st101⟩ := Jvm.LawKit.callS X0 hx (y := (⟨"moorholt/net/Frame$Kind", "of", "(B)Lmoorholt/net/Frame$Kind;"⟩ : MethodName)) hown (mvT hZ (hw _ (List.mem_of_getElem? (i := 0) rfl))) (mvT hZ (hw _ (List.mem_of_getElem? (i := 1) rfl))) (mvT hZ (hw _ (List.mem_of_getElem? (i := 2) rfl))) (mvT hZ (hw _ (List.mem_of_getElem? (i := 3) rfl))) (by decide) (backOf (W := 0) (rm1 l Z a0 hw [] bb a_ALL kA a_LOGIN a_ACCEPTED a_REFUSED a_MESSAGE a_LOGOUT a_VIEW a_RESYNC h0 n0 Z0 S_ALL V_ALL F_LOGIN_code F_ACCEPTED_code F_REFUSED_code F_MESSAGE_code F_LOGOUT_code F_VIEW_code F_RESYNC_code) hZ (hw _ (List.mem_of_getElem? (i := 3) rfl)) (hw _ (List.mem_of_getElem? (i := 2) rfl)) (by decide) (by decide)) (g := (mkF m 4 #[.val (.int p1), .val (.int bb), .unset] [(.int bb)])) rfl (by rw [hml]; rfl) (argsL := [(.int bb)]) (rest := []) (lenOf pd_0 rfl) rfl (by show 2 * 0 + _ ≤ _; exact Nat.le_of_eq rfl) (hb hby at_4) (fun _ _ => ⟨rfl, e0, (by decide : 0 + 0 ≤ _), (by decide : 0 + 0 ≤ _)⟩)
  dsimp only [Pt.U, Pt.locs, Pt.cells, Pt.slots] at X101 l101 y101 z101 st101 hQ101
  subst l101 y101 z101
  obtain ⟨rfl, Nq101, eq101⟩ := hQ101
  have N101 := Fr.app N0 Nq101
  refine EndsQ.go st101 ?_
  show EndsQ _ _ _ _ _ _ _ (T101.setTop (mkF m 7 #[.val (.int p1), .val (.int bb), .unset] [(own_of bb a_LOGIN a_ACCEPTED a_REFUSED a_MESSAGE a_LOGOUT a_VIEW a_RESYNC)]))
  rcases own_rc bb a_LOGIN a_ACCEPTED a_REFUSED a_MESSAGE a_LOGOUT a_VIEW a_RESYNC with hv | ⟨ax, hv⟩
  · rw [hv]
    show EndsQ _ _ _ _ _ _ _ (T101.setTop (mkF m 7 #[.val (.int p1), .val (.int bb), .unset] [.null]))
    refine EndsQ.go (b := T101.setTop (mkF m 10 #[.val (.int p1), .val (.int bb), .val .null] [(.int bb), .null])) (fun t k => ?_) ?_
    · show Steps p.tables e below (T101.setTop (mkF m 7 #[.val (.int p1), .val (.int bb), .unset] [.null])) _
      refine XS.astoreN X101.here hx rfl (hb hby at_7) rfl rfl (l' := #[.val (.int p1), .val (.int bb), .val .null]) rfl ?_
      show Steps p.tables e below (T101.setTop (mkF m 8 #[.val (.int p1), .val (.int bb), .val .null] [])) _
      refine XS.aloadN X101.here hx rfl (hb hby at_8) rfl rfl ?_
      show Steps p.tables e below (T101.setTop (mkF m 9 #[.val (.int p1), .val (.int bb), .val .null] [.null])) _
      refine XS.iloadN X101.here hx rfl (hb hby at_9) rfl ?_
      show Steps p.tables e below (T101.setTop (mkF m 10 #[.val (.int p1), .val (.int bb), .val .null] [(.int bb), .null])) _
      exact k
    obtain ⟨_, _, ⟨T102, L102, kk102, nn102⟩, -, X102, ⟨Lc102, hQ102, l102, y102, z102⟩, st102⟩ := Jvm.LawKit.callS X101 hx (y := (⟨"moorholt/net/FrameOfPinLaw", "expected", "(I)Lmoorholt/net/Frame$Kind;"⟩ : MethodName)) hown (mvT hZ (hw _ (List.mem_of_getElem? (i := 15) rfl))) (mvT hZ (hw _ (List.mem_of_getElem? (i := 16) rfl))) (mvT hZ (hw _ (List.mem_of_getElem? (i := 17) rfl))) (mvT hZ (hw _ (List.mem_of_getElem? (i := 18) rfl))) (by decide) (backOf (W := 1) (rm2 l Z a0 hw [] bb a_LOGIN a_ACCEPTED a_REFUSED a_MESSAGE a_LOGOUT a_VIEW a_RESYNC h0 n0 Z0 S_LOGIN S_ACCEPTED S_REFUSED S_MESSAGE S_LOGOUT S_VIEW S_RESYNC) hZ (hw _ (List.mem_of_getElem? (i := 18) rfl)) (hw _ (List.mem_of_getElem? (i := 17) rfl)) (by decide) (by decide)) (g := (mkF m 10 #[.val (.int p1), .val (.int bb), .val .null] [(.int bb), .null])) rfl (by rw [hml]; rfl) (argsL := [(.int bb)]) (rest := [.null]) (lenOf pd_1 rfl) rfl (by show 2 * 0 + _ ≤ _; exact Nat.le_of_eq rfl) (hb hby at_10) (fun _ _ => ⟨rfl, eq101, (by decide : 0 + 0 ≤ _), (by decide : 0 + 0 ≤ _)⟩)
    dsimp only [Pt.U, Pt.locs, Pt.cells, Pt.slots] at X102 l102 y102 z102 st102 hQ102
    subst l102 y102 z102
    obtain ⟨rfl, Nq102, eq102⟩ := hQ102
    have N102 := Fr.app N101 Nq102
    refine EndsQ.go st102 ?_
    show EndsQ _ _ _ _ _ _ _ (T102.setTop (mkF m 13 #[.val (.int p1), .val (.int bb), .val .null] [(own_exp bb a_LOGIN a_ACCEPTED a_REFUSED a_MESSAGE a_LOGOUT a_VIEW a_RESYNC), .null]))
    rw [← own_same, hv]
    show EndsQ _ _ _ _ _ _ _ (T102.setTop (mkF m 13 #[.val (.int p1), .val (.int bb), .val .null] [.null, .null]))
    refine EndsQ.go (b := T102.setTop (mkF m 21 #[.val (.int p1), .val (.int bb), .val .null] [(.int (1 : Int32))])) (fun t k => ?_) ?_
    · show Steps p.tables e below (T102.setTop (mkF m 13 #[.val (.int p1), .val (.int bb), .val .null] [.null, .null])) _
      refine acmp X102 hx rfl (x := .null) (y := .null) rfl rfl (pc0 := 13) (pc' := 16) (same := true) rfl (hb hby at_13) rfl (by simp) (by decide) (by decide) ?_
      show Steps p.tables e below (T102.setTop (mkF m 16 #[.val (.int p1), .val (.int bb), .val .null] [])) _
      refine XS.iconst X102.here hx rfl (hb hby at_16) ?_
      show Steps p.tables e below (T102.setTop (mkF m 17 #[.val (.int p1), .val (.int bb), .val .null] [(.int (1 : Int32))])) _
      refine XS.goto X102.here hx rfl (pc0 := 17) (pc' := 21) rfl (hb hby at_17) (by decide) (by decide) ?_
      show Steps p.tables e below (T102.setTop (mkF m 21 #[.val (.int p1), .val (.int bb), .val .null] [(.int (1 : Int32))])) _
      exact k
    refine EndsQ.retN X102 hx Bd.notSynchronized (t := .boolean) Bd.returns (by simp) (hb hby at_21) (by decide) (by decide) ?_
    show Q0 Z p1 a_ALL kA a_LOGIN a_ACCEPTED a_REFUSED a_MESSAGE a_LOGOUT a_VIEW a_RESYNC h0 n0 (some (.int (nar .boolean (1 : Int32)))) T102.heap _
    rw [eq102]
    exact ⟨rfl, N102⟩
  · rw [hv]
    show EndsQ _ _ _ _ _ _ _ (T101.setTop (mkF m 7 #[.val (.int p1), .val (.int bb), .unset] [(.ref ax)]))
    refine EndsQ.go (b := T101.setTop (mkF m 10 #[.val (.int p1), .val (.int bb), .val (.ref ax)] [(.int bb), (.ref ax)])) (fun t k => ?_) ?_
    · show Steps p.tables e below (T101.setTop (mkF m 7 #[.val (.int p1), .val (.int bb), .unset] [(.ref ax)])) _
      refine XS.astoreN X101.here hx rfl (hb hby at_7) rfl rfl (l' := #[.val (.int p1), .val (.int bb), .val (.ref ax)]) rfl ?_
      show Steps p.tables e below (T101.setTop (mkF m 8 #[.val (.int p1), .val (.int bb), .val (.ref ax)] [])) _
      refine XS.aloadN X101.here hx rfl (hb hby at_8) rfl rfl ?_
      show Steps p.tables e below (T101.setTop (mkF m 9 #[.val (.int p1), .val (.int bb), .val (.ref ax)] [(.ref ax)])) _
      refine XS.iloadN X101.here hx rfl (hb hby at_9) rfl ?_
      show Steps p.tables e below (T101.setTop (mkF m 10 #[.val (.int p1), .val (.int bb), .val (.ref ax)] [(.int bb), (.ref ax)])) _
      exact k
    obtain ⟨_, _, ⟨T103, L103, kk103, nn103⟩, -, X103, ⟨Lc103, hQ103, l103, y103, z103⟩, st103⟩ := Jvm.LawKit.callS X101 hx (y := (⟨"moorholt/net/FrameOfPinLaw", "expected", "(I)Lmoorholt/net/Frame$Kind;"⟩ : MethodName)) hown (mvT hZ (hw _ (List.mem_of_getElem? (i := 15) rfl))) (mvT hZ (hw _ (List.mem_of_getElem? (i := 16) rfl))) (mvT hZ (hw _ (List.mem_of_getElem? (i := 17) rfl))) (mvT hZ (hw _ (List.mem_of_getElem? (i := 18) rfl))) (by decide) (backOf (W := 1) (rm2 l Z a0 hw [] bb a_LOGIN a_ACCEPTED a_REFUSED a_MESSAGE a_LOGOUT a_VIEW a_RESYNC h0 n0 Z0 S_LOGIN S_ACCEPTED S_REFUSED S_MESSAGE S_LOGOUT S_VIEW S_RESYNC) hZ (hw _ (List.mem_of_getElem? (i := 18) rfl)) (hw _ (List.mem_of_getElem? (i := 17) rfl)) (by decide) (by decide)) (g := (mkF m 10 #[.val (.int p1), .val (.int bb), .val (.ref ax)] [(.int bb), (.ref ax)])) rfl (by rw [hml]; rfl) (argsL := [(.int bb)]) (rest := [(.ref ax)]) (lenOf pd_1 rfl) rfl (by show 2 * 0 + _ ≤ _; exact Nat.le_of_eq rfl) (hb hby at_10) (fun _ _ => ⟨rfl, eq101, (by decide : 0 + 0 ≤ _), (by decide : 0 + 0 ≤ _)⟩)
    dsimp only [Pt.U, Pt.locs, Pt.cells, Pt.slots] at X103 l103 y103 z103 st103 hQ103
    subst l103 y103 z103
    obtain ⟨rfl, Nq103, eq103⟩ := hQ103
    have N103 := Fr.app N101 Nq103
    refine EndsQ.go st103 ?_
    show EndsQ _ _ _ _ _ _ _ (T103.setTop (mkF m 13 #[.val (.int p1), .val (.int bb), .val (.ref ax)] [(own_exp bb a_LOGIN a_ACCEPTED a_REFUSED a_MESSAGE a_LOGOUT a_VIEW a_RESYNC), (.ref ax)]))
    rw [← own_same, hv]
    show EndsQ _ _ _ _ _ _ _ (T103.setTop (mkF m 13 #[.val (.int p1), .val (.int bb), .val (.ref ax)] [(.ref ax), (.ref ax)]))
    refine EndsQ.go (b := T103.setTop (mkF m 21 #[.val (.int p1), .val (.int bb), .val (.ref ax)] [(.int (1 : Int32))])) (fun t k => ?_) ?_
    · show Steps p.tables e below (T103.setTop (mkF m 13 #[.val (.int p1), .val (.int bb), .val (.ref ax)] [(.ref ax), (.ref ax)])) _
      refine acmp X103 hx rfl (x := (.ref ax)) (y := (.ref ax)) rfl rfl (pc0 := 13) (pc' := 16) (same := true) rfl (hb hby at_13) rfl (by simp) (by decide) (by decide) ?_
      show Steps p.tables e below (T103.setTop (mkF m 16 #[.val (.int p1), .val (.int bb), .val (.ref ax)] [])) _
      refine XS.iconst X103.here hx rfl (hb hby at_16) ?_
      show Steps p.tables e below (T103.setTop (mkF m 17 #[.val (.int p1), .val (.int bb), .val (.ref ax)] [(.int (1 : Int32))])) _
      refine XS.goto X103.here hx rfl (pc0 := 17) (pc' := 21) rfl (hb hby at_17) (by decide) (by decide) ?_
      show Steps p.tables e below (T103.setTop (mkF m 21 #[.val (.int p1), .val (.int bb), .val (.ref ax)] [(.int (1 : Int32))])) _
      exact k
    refine EndsQ.retN X103 hx Bd.notSynchronized (t := .boolean) Bd.returns (by simp) (hb hby at_21) (by decide) (by decide) ?_
    show Q0 Z p1 a_ALL kA a_LOGIN a_ACCEPTED a_REFUSED a_MESSAGE a_LOGOUT a_VIEW a_RESYNC h0 n0 (some (.int (nar .boolean (1 : Int32)))) T103.heap _
    rw [eq103]
    exact ⟨rfl, N103⟩
set_option maxRecDepth 65536 in
set_option maxHeartbeats 40000000 in
theorem comes_1 {Post : Tables → Env → Array Value → State → Outcome → State → Prop} (hpost : ∀ tb e args s v u, (limb_1_1.after args s (.returned v) u = true ∧ limb_1_2.after args s (.returned v) u = true ∧ True) → FrameEnd s (.returned v) u (Jvm.fieldLocs frame_1_writes args s ++ Jvm.arrayLocs frame_1_arrays args s ++ Jvm.staticLocs frame_1_statics s) 0 0 → Post tb e args s (.returned v) u) :
    ArmFor flags0 classFile x code maxLocals ret World_1 tables_1 room_1 Calls_1 rest_1 Pre_1 Post := by
  intro l hfl _ _ p e ha hc hk s m args below hf hA hF happ hP
  obtain ⟨hcalls, hrest, hpre⟩ := hP
  obtain ⟨-, -, -, hnamed, -, -, -, hat⟩ := (Spec.applies_iff hf).mp happ
  obtain ⟨hg, hn⟩ := and_e (Cond.before_iff.mp (show (Jvm.Cond.and given_1 narrow_1).before args s = true from hpre))
  obtain ⟨g1a, g1b⟩ := and_e hg
  obtain ⟨w0, rfl⟩ : ∃ w0 : Value, args = #[w0] := by
    have hs : args.size = 1 := by simpa [Cond.value, given_1] using g1a
    obtain ⟨L⟩ := args
    match L, hs with
    | [w0], _ => exact ⟨w0, rfl⟩
  have hw := fun d (hd : d ∈ tables_1) => atoms_spec (ws := Jvm.Cond.code x code maxLocals ret :: tables_1) hat d (List.mem_cons_of_mem _ hd)
  have hfit : Fit s := fun {y c} hc i hi => by
    obtain ⟨ha, rfl⟩ := Array.getElem?_eq_some_iff.mp hc
    have q := List.all_eq_true.mp ((Array.all_eq_true_iff_forall_mem.mp hF) _ (Array.getElem_mem ha)) i (List.mem_range.mpr hi)
    simpa [Array.getElem?_eq_getElem hi] using q
  obtain ⟨i0, ei0⟩ := is_v g1b
  obtain rfl : w0 = (.int i0) := Option.some.inj ei0
  obtain ⟨n0, hn0⟩ := and_e hn
  obtain ⟨n1, hn1⟩ := and_e hn0
  obtain ⟨n2, hn2⟩ := and_e hn1
  obtain ⟨n3, hn3⟩ := and_e hn2
  obtain ⟨n4, hn4⟩ := and_e hn3
  obtain ⟨n5, hn5⟩ := and_e hn4
  obtain ⟨n6, hn6⟩ := and_e hn5
  obtain ⟨n7, hn7⟩ := and_e hn6
  obtain ⟨n8, hn8⟩ := and_e hn7
  obtain ⟨n9, hn9⟩ := and_e hn8
  obtain ⟨n10, hn10⟩ := and_e hn9
  obtain ⟨n11, hn11⟩ := and_e hn10
  obtain ⟨n12, hn12⟩ := and_e hn11
  obtain ⟨n13, hn13⟩ := and_e hn12
  obtain ⟨n14, hn14⟩ := and_e hn13
  obtain ⟨n15, hn15⟩ := and_e hn14
  obtain ⟨n16, hn16⟩ := and_e hn15
  obtain ⟨n17, hn17⟩ := and_e hn16
  obtain ⟨n18, hn18⟩ := and_e hn17
  obtain ⟨n19, hn19⟩ := and_e hn18
  obtain ⟨n20, hn20⟩ := and_e hn19
  obtain ⟨n21, hn21⟩ := and_e hn20
  obtain ⟨a_ALL, ev_ALL⟩ := arr_v n0
  have S_ALL := Sta.start ev_ALL (Or.inr ⟨(hw _ (List.mem_of_getElem? (i := 2) rfl)), (hw _ (List.mem_of_getElem? (i := 5) rfl))⟩)
  obtain ⟨a_LOGIN, ev_LOGIN⟩ := exa_v n2
  have X_LOGIN := Exa.start ev_LOGIN n2
  have S_LOGIN := Sta.start ev_LOGIN (Or.inr ⟨(hw _ (List.mem_of_getElem? (i := 2) rfl)), (hw _ (List.mem_of_getElem? (i := 6) rfl))⟩)
  obtain ⟨a_ACCEPTED, ev_ACCEPTED⟩ := exa_v n5
  have X_ACCEPTED := Exa.start ev_ACCEPTED n5
  have S_ACCEPTED := Sta.start ev_ACCEPTED (Or.inr ⟨(hw _ (List.mem_of_getElem? (i := 2) rfl)), (hw _ (List.mem_of_getElem? (i := 9) rfl))⟩)
  obtain ⟨a_REFUSED, ev_REFUSED⟩ := exa_v n8
  have X_REFUSED := Exa.start ev_REFUSED n8
  have S_REFUSED := Sta.start ev_REFUSED (Or.inr ⟨(hw _ (List.mem_of_getElem? (i := 2) rfl)), (hw _ (List.mem_of_getElem? (i := 10) rfl))⟩)
  obtain ⟨a_MESSAGE, ev_MESSAGE⟩ := exa_v n11
  have X_MESSAGE := Exa.start ev_MESSAGE n11
  have S_MESSAGE := Sta.start ev_MESSAGE (Or.inr ⟨(hw _ (List.mem_of_getElem? (i := 2) rfl)), (hw _ (List.mem_of_getElem? (i := 11) rfl))⟩)
  obtain ⟨a_LOGOUT, ev_LOGOUT⟩ := exa_v n14
  have X_LOGOUT := Exa.start ev_LOGOUT n14
  have S_LOGOUT := Sta.start ev_LOGOUT (Or.inr ⟨(hw _ (List.mem_of_getElem? (i := 2) rfl)), (hw _ (List.mem_of_getElem? (i := 12) rfl))⟩)
  obtain ⟨a_VIEW, ev_VIEW⟩ := exa_v n17
  have X_VIEW := Exa.start ev_VIEW n17
  have S_VIEW := Sta.start ev_VIEW (Or.inr ⟨(hw _ (List.mem_of_getElem? (i := 2) rfl)), (hw _ (List.mem_of_getElem? (i := 13) rfl))⟩)
  obtain ⟨a_RESYNC, ev_RESYNC⟩ := exa_v n20
  have X_RESYNC := Exa.start ev_RESYNC n20
  have S_RESYNC := Sta.start ev_RESYNC (Or.inr ⟨(hw _ (List.mem_of_getElem? (i := 2) rfl)), (hw _ (List.mem_of_getElem? (i := 14) rfl))⟩)
  have F_LOGIN_code := Fld.start ((fld_at ev_LOGIN).symm.trans (own_eqI n4))
  have F_ACCEPTED_code := Fld.start ((fld_at ev_ACCEPTED).symm.trans (own_eqI n7))
  have F_REFUSED_code := Fld.start ((fld_at ev_REFUSED).symm.trans (own_eqI n10))
  have F_MESSAGE_code := Fld.start ((fld_at ev_MESSAGE).symm.trans (own_eqI n13))
  have F_LOGOUT_code := Fld.start ((fld_at ev_LOGOUT).symm.trans (own_eqI n16))
  have F_VIEW_code := Fld.start ((fld_at ev_VIEW).symm.trans (own_eqI n19))
  have F_RESYNC_code := Fld.start ((fld_at ev_RESYNC).symm.trans (own_eqI hn21))
  obtain ⟨cl_ALL, Ar_ALL, sz_ALL, ln_ALL⟩ := own_arr n0 ev_ALL n1
  have el_ALL_0 := (elem_in (own_eqR n3 ev_LOGIN) ev_ALL (Term.int_eval _) Ar_ALL.1).2
  have el_ALL_1 := (elem_in (own_eqR n6 ev_ACCEPTED) ev_ALL (Term.int_eval _) Ar_ALL.1).2
  have el_ALL_2 := (elem_in (own_eqR n9 ev_REFUSED) ev_ALL (Term.int_eval _) Ar_ALL.1).2
  have el_ALL_3 := (elem_in (own_eqR n12 ev_MESSAGE) ev_ALL (Term.int_eval _) Ar_ALL.1).2
  have el_ALL_4 := (elem_in (own_eqR n15 ev_LOGOUT) ev_ALL (Term.int_eval _) Ar_ALL.1).2
  have el_ALL_5 := (elem_in (own_eqR n18 ev_VIEW) ev_ALL (Term.int_eval _) Ar_ALL.1).2
  have el_ALL_6 := (elem_in (own_eqR n21 ev_RESYNC) ev_ALL (Term.int_eval _) Ar_ALL.1).2
  have V_ALL : Arv s s.heap a_ALL cl_ALL.cls (.object "moorholt/net/Frame$Kind") (7 : Int32) [(.ref a_LOGIN), (.ref a_ACCEPTED), (.ref a_REFUSED), (.ref a_MESSAGE), (.ref a_LOGOUT), (.ref a_VIEW), (.ref a_RESYNC)] .null := Arv.start hfit Ar_ALL sz_ALL ln_ALL (by decide) rfl ⟨el_ALL_0, el_ALL_1, el_ALL_2, el_ALL_3, el_ALL_4, el_ALL_5, el_ALL_6, trivial⟩
  obtain ⟨n, o, h1, h2, h3, _, L, rfl, ⟨rfl, N⟩, hq⟩ := rm0 l s _ hw tables_1 i0 a_ALL cl_ALL.cls a_LOGIN a_ACCEPTED a_REFUSED a_MESSAGE a_LOGOUT a_VIEW a_RESYNC s.heap s.heap.size (Nat.le_refl _) S_ALL V_ALL F_LOGIN_code F_ACCEPTED_code F_REFUSED_code F_MESSAGE_code F_LOGOUT_code F_VIEW_code F_RESYNC_code S_LOGIN S_ACCEPTED S_REFUSED S_MESSAGE S_LOGOUT S_VIEW S_RESYNC p e ha hc hk s m _ below hf ((Spec.applies_iff_loose hf).mp happ).1 ⟨rfl, State.Warmed39.refl s, rfl⟩ trivial
  refine ⟨n, _, h1, h2, h3, hpost _ _ _ _ _ _ ⟨Cond.after_iff.mpr rfl, Cond.after_iff.mpr (eq_i res_at (Term.int_eval (1)) rfl), trivial⟩ ⟨hq.1, hq.2.1, (hq.2.2.sift fun y hy => Or.inr (N y hy)).mono (by decide) (by decide)⟩⟩
theorem main_1_1 : Claimed_1_1 := comes_1 fun _ _ _ _ _ _ h hF => ⟨h.1, hF⟩
theorem main_1_2 : Claimed_1_2 := comes_1 fun _ _ _ _ _ _ h hF => ⟨h.2.1, hF⟩
end Jvm.Pilot.@@N@@
namespace Jvm.Pilot.@@N@@
open Jvm Jvm.ClassFile Sem Op Lib Jvm.Free Jvm.Stand Jvm.Pilot.@@N@@.Jvm.D
/-! MADE BY PROGRAM (witnessworld.py) out of the Statement's table words and the real class files: 13 classes; the members and pool entries that the words name. The judged class is class 1, her method 2. -/
namespace start1
open Jvm.ClassFile
def u (s : String) : CpInfo := .utf8 (stringToUtf16 s)
/-- a pool by its gaps: so many unusable entries, then the entry; so many at the end -/
def gap : Nat → List CpInfo → List CpInfo
  | 0, r => r
  | n + 1, r => .unusable :: gap n r
def poolList (es : List (Nat × CpInfo)) (last : Nat) : List CpInfo := es.foldr (fun e r => gap e.1 (e.2 :: r)) (gap last [])
def pool (es : List (Nat × CpInfo)) (last : Nat) : Array CpInfo := ⟨poolList es last⟩
def fileOf (pool : Array CpInfo) (this : Nat) (attrs : Array Attribute := #[]) (ms : Array MethodInfo := #[]) (fl : Nat := 33) (sup : Nat := 0) (ifs : Array Nat := #[]) (fds : Array FieldInfo := #[]) : ClassFile where
  minorVersion := 0
  majorVersion := 65
  constantPool := pool
  accessFlags := fl
  thisClass := this
  superClass := sup
  interfaces := ifs
  fields := fds
  methods := ms
  attributes := attrs
def plain (name : String) (sup : Option ClassId) : Class where
  name := name
  kind := .ordinary
  loader := none
  accessFlags := 33
  super := sup
  interfaces := #[]
  cf := none
  fields := #[]
  methods := #[]
  instanceTypes := #[]
  staticTypes := #[]
  resolved := #[]
  callSites := []
  init := .initialized
  statics := none
  mirror := none

def pool0 : Array CpInfo := pool [(5, u "<init>"), (0, u "()V"), (1, .class_ 10), (1, u "java/lang/Object")] 113

def k0m0 : Method := { name := "<init>", desc := "()V", sig := { parameters := [], returnType := none }, accessFlags := 1, code := none }
/-- java/lang/Object -/
def k0 : Class := { plain "java/lang/Object" none with
  accessFlags := 33
  interfaces := #[]
  cf := some (fileOf pool0 8 #[] #[{ accessFlags := 1, nameIndex := 5, descriptorIndex := 6, attributes := #[] }] 33 0 #[] #[])
  fields := #[]
  methods := #[k0m0]
  instanceTypes := #[]
  staticTypes := #[]
  resolved := Array.replicate 124 none
  statics := none }

def pool1 : Array CpInfo := pool [(2, .class_ 4), (1, u "java/lang/Object"), (0, u "<init>"), (0, u "()V"), (0, .fieldref 8 9), (0, .class_ 10), (0, .nameAndType 11 12), (0, u "moorholt/net/Frame$Kind"), (0, u "LOGIN"), (0, u "Lmoorholt/net/Frame$Kind;"), (0, .fieldref 8 14), (0, .nameAndType 15 12), (0, u "ACCEPTED"), (0, .fieldref 8 17), (0, .nameAndType 18 12), (0, u "REFUSED"), (0, .fieldref 8 20), (0, .nameAndType 21 12), (0, u "MESSAGE"), (0, .fieldref 8 23), (0, .nameAndType 24 12), (0, u "LOGOUT"), (0, .fieldref 8 26), (0, .nameAndType 27 12), (0, u "VIEW"), (0, .fieldref 8 29), (0, .nameAndType 30 12), (0, u "RESYNC"), (0, .methodref 8 32), (0, .nameAndType 33 34), (0, u "of"), (0, u "(B)Lmoorholt/net/Frame$Kind;"), (0, .methodref 36 37), (0, .class_ 38), (0, .nameAndType 39 40), (0, u "moorholt/net/FrameOfPinLaw"), (0, u "expected"), (0, u "(I)Lmoorholt/net/Frame$Kind;"), (3, u "law"), (0, u "(I)Z")] 6

def k1m0 : Method := { name := "<init>", desc := "()V", sig := { parameters := [], returnType := none }, accessFlags := 2, code := none }
def k1c1 : Code := { maxStack := 2, maxLocals := 1, code := method_2_code, exceptionTable := #[], attributes := #[] }
def k1m1 : Method := { name := "expected", desc := "(I)Lmoorholt/net/Frame$Kind;", sig := { parameters := [.int], returnType := some (.object "moorholt/net/Frame$Kind") }, accessFlags := 10, code := some k1c1 }
def k1c2 : Code := { maxStack := 2, maxLocals := 3, code := code, exceptionTable := #[], attributes := #[] }
def k1m2 : Method := { name := "law", desc := "(I)Z", sig := { parameters := [.int], returnType := some .boolean }, accessFlags := 9, code := some k1c2 }
/-- moorholt/net/FrameOfPinLaw -/
def k1 : Class := { plain "moorholt/net/FrameOfPinLaw" (some 0) with
  accessFlags := 49
  interfaces := #[]
  cf := some (fileOf pool1 36 #[] #[{ accessFlags := 2, nameIndex := 5, descriptorIndex := 6, attributes := #[] }, { accessFlags := 10, nameIndex := 39, descriptorIndex := 40, attributes := #[] }, { accessFlags := 9, nameIndex := 44, descriptorIndex := 45, attributes := #[] }] 49 2 #[] #[])
  fields := #[]
  methods := #[k1m0, k1m1, k1m2]
  instanceTypes := #[]
  staticTypes := #[]
  resolved := Array.replicate 52 none
  statics := none }

def pool2 : Array CpInfo := pool [(1, .class_ 2), (0, u "java/lang/constant/Constable"), (0, .class_ 4), (0, u "java/lang/Object")] 6

/-- java/lang/constant/Constable -/
def k2 : Class := { plain "java/lang/constant/Constable" (some 0) with
  accessFlags := 1537
  interfaces := #[]
  cf := some (fileOf pool2 1 #[] #[] 1537 3 #[] #[])
  fields := #[]
  methods := #[]
  instanceTypes := #[]
  staticTypes := #[]
  resolved := Array.replicate 11 none
  statics := none }

def pool3 : Array CpInfo := pool [(1, .class_ 2), (0, u "java/lang/Comparable"), (0, .class_ 4), (0, u "java/lang/Object")] 7

/-- java/lang/Comparable -/
def k3 : Class := { plain "java/lang/Comparable" (some 0) with
  accessFlags := 1537
  interfaces := #[]
  cf := some (fileOf pool3 1 #[] #[] 1537 3 #[] #[])
  fields := #[]
  methods := #[]
  instanceTypes := #[]
  staticTypes := #[]
  resolved := Array.replicate 12 none
  statics := none }

def pool4 : Array CpInfo := pool [(1, .class_ 2), (0, u "java/io/Serializable"), (0, .class_ 4), (0, u "java/lang/Object")] 2

/-- java/io/Serializable -/
def k4 : Class := { plain "java/io/Serializable" (some 0) with
  accessFlags := 1537
  interfaces := #[]
  cf := some (fileOf pool4 1 #[] #[] 1537 3 #[] #[])
  fields := #[]
  methods := #[]
  instanceTypes := #[]
  staticTypes := #[]
  resolved := Array.replicate 7 none
  statics := none }

def pool5 : Array CpInfo := pool [(2, .class_ 4), (1, u "java/lang/Enum"), (0, u "name"), (0, u "Ljava/lang/String;"), (2, u "ordinal"), (0, u "I"), (1, .class_ 14), (1, u "java/lang/Object"), (4, u "hash"), (86, .class_ 108), (1, u "java/lang/Enum$EnumDesc"), (2, .class_ 112), (0, u "java/lang/constant/Constable"), (0, .class_ 114), (0, u "java/lang/Comparable"), (0, .class_ 116), (0, u "java/io/Serializable")] 87

/-- java/lang/Enum -/
def k5 : Class := { plain "java/lang/Enum" (some 0) with
  accessFlags := 1057
  interfaces := #[2, 3, 4]
  cf := some (fileOf pool5 2 #[.nestMembers #[106]] #[] 1057 12 #[111, 113, 115] #[{ accessFlags := 18, nameIndex := 5, descriptorIndex := 6, attributes := #[] }, { accessFlags := 18, nameIndex := 9, descriptorIndex := 10, attributes := #[] }, { accessFlags := 2, nameIndex := 19, descriptorIndex := 10, attributes := #[] }])
  fields := #[{ name := "name", type := (.object "java/lang/String"), accessFlags := 18, slot := 0, constantValue := 0 }, { name := "ordinal", type := .int, accessFlags := 18, slot := 1, constantValue := 0 }, { name := "hash", type := .int, accessFlags := 2, slot := 2, constantValue := 0 }]
  methods := #[]
  instanceTypes := #[(.object "java/lang/String"), .int, .int]
  staticTypes := #[]
  resolved := Array.replicate 204 none
  statics := none }

def pool6 : Array CpInfo := pool [(1, .class_ 2), (0, u "moorholt/net/Frame$Kind"), (2, u "LOGIN"), (0, u "Lmoorholt/net/Frame$Kind;"), (2, u "ACCEPTED"), (2, u "REFUSED"), (2, u "MESSAGE"), (2, u "LOGOUT"), (2, u "VIEW"), (2, u "RESYNC"), (2, u "$VALUES"), (0, u "[Lmoorholt/net/Frame$Kind;"), (6, .class_ 37), (1, u "java/lang/Enum"), (6, .fieldref 1 45), (0, .nameAndType 46 47), (0, u "code"), (0, u "B"), (2, u "carriesText"), (0, u "Z"), (0, .fieldref 1 53), (0, .nameAndType 54 28), (0, u "ALL"), (23, u "of"), (0, u "(B)Lmoorholt/net/Frame$Kind;"), (9, .class_ 90), (0, u "moorholt/net/Frame")] 2

def k6c0 : Code := { maxStack := 2, maxLocals := 5, code := prog_34_method_4_code, exceptionTable := #[], attributes := #[] }
def k6m0 : Method := { name := "of", desc := "(B)Lmoorholt/net/Frame$Kind;", sig := { parameters := [.byte], returnType := some (.object "moorholt/net/Frame$Kind") }, accessFlags := 8, code := some k6c0 }
/-- moorholt/net/Frame$Kind -/
def k6 : Class := { plain "moorholt/net/Frame$Kind" (some 5) with
  accessFlags := 16432
  interfaces := #[]
  cf := some (fileOf pool6 1 #[.nestHost 89] #[{ accessFlags := 8, nameIndex := 78, descriptorIndex := 79, attributes := #[] }] 16432 35 #[] #[{ accessFlags := 16409, nameIndex := 5, descriptorIndex := 6, attributes := #[] }, { accessFlags := 16409, nameIndex := 9, descriptorIndex := 6, attributes := #[] }, { accessFlags := 16409, nameIndex := 12, descriptorIndex := 6, attributes := #[] }, { accessFlags := 16409, nameIndex := 15, descriptorIndex := 6, attributes := #[] }, { accessFlags := 16409, nameIndex := 18, descriptorIndex := 6, attributes := #[] }, { accessFlags := 16409, nameIndex := 21, descriptorIndex := 6, attributes := #[] }, { accessFlags := 16409, nameIndex := 24, descriptorIndex := 6, attributes := #[] }, { accessFlags := 26, nameIndex := 54, descriptorIndex := 28, attributes := #[] }, { accessFlags := 18, nameIndex := 46, descriptorIndex := 47, attributes := #[] }, { accessFlags := 18, nameIndex := 50, descriptorIndex := 51, attributes := #[] }, { accessFlags := 4122, nameIndex := 27, descriptorIndex := 28, attributes := #[] }])
  fields := #[{ name := "LOGIN", type := (.object "moorholt/net/Frame$Kind"), accessFlags := 16409, slot := 0, constantValue := 0 }, { name := "ACCEPTED", type := (.object "moorholt/net/Frame$Kind"), accessFlags := 16409, slot := 1, constantValue := 0 }, { name := "REFUSED", type := (.object "moorholt/net/Frame$Kind"), accessFlags := 16409, slot := 2, constantValue := 0 }, { name := "MESSAGE", type := (.object "moorholt/net/Frame$Kind"), accessFlags := 16409, slot := 3, constantValue := 0 }, { name := "LOGOUT", type := (.object "moorholt/net/Frame$Kind"), accessFlags := 16409, slot := 4, constantValue := 0 }, { name := "VIEW", type := (.object "moorholt/net/Frame$Kind"), accessFlags := 16409, slot := 5, constantValue := 0 }, { name := "RESYNC", type := (.object "moorholt/net/Frame$Kind"), accessFlags := 16409, slot := 6, constantValue := 0 }, { name := "ALL", type := (.array (.object "moorholt/net/Frame$Kind")), accessFlags := 26, slot := 7, constantValue := 0 }, { name := "code", type := .byte, accessFlags := 18, slot := 3, constantValue := 0 }, { name := "carriesText", type := .boolean, accessFlags := 18, slot := 4, constantValue := 0 }, { name := "$VALUES", type := (.array (.object "moorholt/net/Frame$Kind")), accessFlags := 4122, slot := 8, constantValue := 0 }]
  methods := #[k6m0]
  instanceTypes := #[(.object "java/lang/String"), .int, .int, .byte, .boolean]
  staticTypes := #[(.object "moorholt/net/Frame$Kind"), (.object "moorholt/net/Frame$Kind"), (.object "moorholt/net/Frame$Kind"), (.object "moorholt/net/Frame$Kind"), (.object "moorholt/net/Frame$Kind"), (.object "moorholt/net/Frame$Kind"), (.object "moorholt/net/Frame$Kind"), (.array (.object "moorholt/net/Frame$Kind")), (.array (.object "moorholt/net/Frame$Kind"))]
  resolved := Array.replicate 93 none
  statics := some 0 }

def pool7 : Array CpInfo := pool [(1, u "java/lang/Cloneable"), (0, .class_ 1), (0, u "java/lang/Object"), (0, .class_ 3)] 3

/-- java/lang/Cloneable -/
def k7 : Class := { plain "java/lang/Cloneable" (some 0) with
  accessFlags := 1537
  interfaces := #[]
  cf := some (fileOf pool7 2 #[] #[] 1537 4 #[] #[])
  fields := #[]
  methods := #[]
  instanceTypes := #[]
  staticTypes := #[]
  resolved := Array.replicate 8 none
  statics := none }

/-- the primitive byte -/
def k8 : Class := { plain "byte" none with kind := .primitive 'B', accessFlags := 0x411 }
/-- [B -/
def k9 : Class := { plain "[B" (some 0) with kind := .array 8 .byte, interfaces := #[7, 4], accessFlags := 1041 }

/-- the primitive int -/
def k10 : Class := { plain "int" none with kind := .primitive 'I', accessFlags := 0x411 }
/-- [I -/
def k11 : Class := { plain "[I" (some 0) with kind := .array 10 .int, interfaces := #[7, 4], accessFlags := 1041 }

/-- [Lmoorholt/net/Frame$Kind; -/
def k12 : Class := { plain "[Lmoorholt/net/Frame$Kind;" (some 0) with kind := .array 6 (.object "moorholt/net/Frame$Kind"), interfaces := #[7, 4], accessFlags := 1041 }

def heap : Heap := #[{ cls := 6, slots := #[.ref 2, .ref 3, .ref 4, .ref 5, .ref 6, .ref 7, .ref 8, .ref 1, .null], vm := .statics 6 },
  { cls := 12, slots := #[.ref 2, .ref 3, .ref 4, .ref 5, .ref 6, .ref 7, .ref 8], vm := .none },
  { cls := 6, slots := #[.null, .int 0, .int 0, .int 1, .int 0], vm := .none },
  { cls := 6, slots := #[.null, .int 1, .int 0, .int 2, .int 0], vm := .none },
  { cls := 6, slots := #[.null, .int 2, .int 0, .int 3, .int 0], vm := .none },
  { cls := 6, slots := #[.null, .int 3, .int 0, .int 4, .int 0], vm := .none },
  { cls := 6, slots := #[.null, .int 4, .int 0, .int 5, .int 0], vm := .none },
  { cls := 6, slots := #[.null, .int 5, .int 0, .int 6, .int 0], vm := .none },
  { cls := 6, slots := #[.null, .int 6, .int 0, .int 7, .int 0], vm := .none }]
def classes : Array Class := #[k0, k1, k2, k3, k4, k5, k6, k7, k8, k9, k10, k11, k12]
def interned : List (Array UInt16 × Addr) := []
def slotsUsed : Nat := 51
def theMethod : MethodId := ⟨1, 2⟩
def args0 : Array Value := #[.int 5]
def aboutOver (below : List Frame) : State where
  vm := { classes := classes, interned := interned.toArray }
  heap := heap
  slotsUsed := slotsUsed
  threads := #[{ frames := .invoking theMethod args0 :: below }]
def below0 : List Frame := [.native { method := ⟨0, 0⟩, args := #[] }]
def about1 : State := aboutOver below0
def p0 : Program := .bare "" "" ""
def e0 : Env := launch0.env 0 0 0
theorem w_frames : about1.frames = Frame.invoking theMethod args0 :: below0 := rfl
set_option maxRecDepth 65536 in
theorem w_args : argsFit about1.vm theMethod args0 = true := by decide +kernel
set_option maxRecDepth 65536 in
theorem w_heap : heapFits about1 = true := by decide +kernel
set_option maxRecDepth 65536 in
theorem w_runnable : about1.curStatus? = some .runnable := by decide +kernel
set_option maxRecDepth 65536 in
theorem w_alone : about1.alone = true := by decide +kernel
set_option maxRecDepth 65536 in
theorem w_named : about1.methodNamed? x = some theMethod := by decide +kernel
set_option maxRecDepth 65536 in
theorem w_hears : about1.hears theMethod below0 = true := by decide +kernel
set_option maxRecDepth 65536 in
theorem w_ripe : about1.ripe theMethod args0 below0 = true := by decide +kernel
theorem w_running : about1.status = .running := rfl
set_option maxRecDepth 65536 in
theorem w_room : about1.hasRoom e0.platform room_1 = true :=
  launch0.hasRoom_least _ room_1 (by decide +kernel) (by decide +kernel) (by decide +kernel) (by decide +kernel) (by decide +kernel) (by decide +kernel)
theorem allAtoms_all (ts : List Jvm.Cond) (a : Array Jvm.Value) (st : Jvm.State) : (allAtoms ts).before a st = ts.all (fun c => c.before a st) := by
  induction ts with
  | nil => rfl
  | cons c t ih =>
    show (Jvm.Cond.and c (allAtoms t)).before a st = _
    rw [Jvm.Cond.before_and, ih, List.all_cons]
def words1 : List Jvm.Cond := Jvm.Cond.code x code maxLocals ret :: tables_1
/-- a 'code' word, met by the world's own term for the bytes: nothing is compared byte by byte -/
theorem code_word {y : MethodName} {bytes : ByteArray} {mx : Nat} {rt : Option FieldType} {a : Array Value} {s : State} {m : MethodId} {meth : Method} {c : Code} (h1 : s.methodNamed? y = some m) (h2 : s.vm.method? m = some meth) (h3 : meth.code = some c) (h4 : c.code = bytes)
    (h5 : (c.maxLocals == mx && c.exceptionTable.isEmpty && decide (c.maxStack ≤ mostOperands) && decide (meth.sig.returnType = rt) && !meth.locks && decide (parseMethodDescriptor y.desc = some meth.sig)) = true) : (Jvm.Cond.code y bytes mx rt).before a s = true := by
  simp only [Bool.and_eq_true, beq_iff_eq, Bool.not_eq_true', decide_eq_true_eq] at h5
  obtain ⟨⟨⟨⟨⟨g1, g2⟩, g3⟩, g4⟩, g5⟩, g6⟩ := h5
  simp [Cond.before, Cond.holds, Cond.value, h1, h2, h3, h4, g1, g2, g3, g4, g5, g6]
def isCode : Jvm.Cond → Bool
  | .code _ _ _ _ => true
  | _ => false
theorem all_split {L : List Jvm.Cond} {P : Jvm.Cond → Bool} (h1 : L.all (fun c => isCode c || P c) = true) (h2 : ∀ c ∈ L.filter isCode, P c = true) : L.all P = true := by
  refine List.all_eq_true.mpr fun c hc => ?_
  have h := List.all_eq_true.mp h1 c hc
  rcases Bool.eq_false_or_eq_true (isCode c) with hi | hi
  · exact h2 c (List.mem_filter.mpr ⟨hc, hi⟩)
  · simpa [hi] using h
set_option maxRecDepth 65536 in
theorem w_c0 : (Jvm.Cond.code x code maxLocals ret).before args0 about1 = true := code_word (m := ⟨1, 2⟩) (meth := k1m2) (c := k1c2) (by decide +kernel) rfl rfl rfl (by decide +kernel)
set_option maxRecDepth 65536 in
theorem w_c1 : (Jvm.Cond.code ({ cls := "moorholt/net/Frame$Kind", name := "of", desc := "(B)Lmoorholt/net/Frame$Kind;" } : Jvm.MethodName) prog_34_method_4_code (5 : Nat) (Option.some (Jvm.ClassFile.FieldType.object "moorholt/net/Frame$Kind"))).before args0 about1 = true := code_word (m := ⟨6, 0⟩) (meth := k6m0) (c := k6c0) (by decide +kernel) rfl rfl rfl (by decide +kernel)
set_option maxRecDepth 65536 in
theorem w_c2 : (Jvm.Cond.code ({ cls := "moorholt/net/FrameOfPinLaw", name := "expected", desc := "(I)Lmoorholt/net/Frame$Kind;" } : Jvm.MethodName) method_2_code (1 : Nat) (Option.some (Jvm.ClassFile.FieldType.object "moorholt/net/Frame$Kind"))).before args0 about1 = true := code_word (m := ⟨1, 1⟩) (meth := k1m1) (c := k1c1) (by decide +kernel) rfl rfl rfl (by decide +kernel)
def codes1 : List Jvm.Cond := [Jvm.Cond.code x code maxLocals ret, Jvm.Cond.code ({ cls := "moorholt/net/Frame$Kind", name := "of", desc := "(B)Lmoorholt/net/Frame$Kind;" } : Jvm.MethodName) prog_34_method_4_code (5 : Nat) (Option.some (Jvm.ClassFile.FieldType.object "moorholt/net/Frame$Kind")), Jvm.Cond.code ({ cls := "moorholt/net/FrameOfPinLaw", name := "expected", desc := "(I)Lmoorholt/net/Frame$Kind;" } : Jvm.MethodName) method_2_code (1 : Nat) (Option.some (Jvm.ClassFile.FieldType.object "moorholt/net/Frame$Kind"))]
set_option maxRecDepth 65536 in
theorem codes_eq : words1.filter isCode = codes1 := rfl
theorem w_codes : ∀ c ∈ words1.filter isCode, c.before args0 about1 = true := by
  rw [codes_eq]
  intro c hc
  simp only [codes1, List.mem_cons, List.not_mem_nil, or_false] at hc
  rcases hc with rfl | rfl | rfl
  · exact w_c0
  · exact w_c1
  · exact w_c2
set_option maxRecDepth 65536 in
theorem w_t1 : (words1.take 24).all (fun c => isCode c || c.before args0 about1) = true := by decide +kernel
set_option maxRecDepth 65536 in
theorem w_t2 : (words1.drop 24).all (fun c => isCode c || c.before args0 about1) = true := by decide +kernel
theorem w_tables : (allAtoms (Jvm.Cond.code x code maxLocals ret :: tables_1)).before args0 about1 = true := by
  rw [allAtoms_all]
  show words1.all (fun c => c.before args0 about1) = true
  refine all_split ?_ w_codes
  rw [← List.take_append_drop 24 words1, List.all_append, w_t1, w_t2]
  rfl
set_option maxRecDepth 65536 in
theorem w_case : (Jvm.Cond.and given_1 narrow_1).before args0 about1 = true := by decide +kernel
theorem w_applies : (headSpec (Jvm.Cond.code x code maxLocals ret :: tables_1) room_1).applies x e0.platform about1 = true :=
  (Spec.applies_iff w_frames).mpr ⟨w_running, w_runnable, w_alone, w_named, w_hears, w_ripe, w_room, w_tables⟩
theorem atStart : AtStart classFile x code maxLocals ret World_1 tables_1 room_1 Calls_1 rest_1 Pre_1 launch0 p0 e0 about1 theMethod args0 below0 :=
  ⟨lists_1, trivial, launch0.admits_env _ _ _, launch0.least_env, fairChoices_fair.cas, fairChoices_fair.clock, w_frames, w_args, w_heap, w_applies, trivial, trivial, w_case⟩
end start1
theorem witness_1 : WitnessClaimed_1 := ⟨start1.p0, start1.e0, start1.about1, start1.theMethod, start1.args0, start1.below0, start1.atStart⟩
end Jvm.Pilot.@@N@@
