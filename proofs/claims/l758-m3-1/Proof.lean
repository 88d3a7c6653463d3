import JvmDerived
import JvmDerived.Pilot.@@N@@Statement
import JvmDerived.Pilot.@@N@@Code
set_option linter.unusedVariables false
set_option linter.unusedSimpArgs false
namespace Jvm.RoadKit
open Sem ClassFile Op Lib Jvm.Stand Jvm.Free Jvm.LawKit
section New
variable {p : Program} {l : Launch} {e : Env} {R : Room} {s : State} {m : MethodId} {args : Array Value} {below : List Frame} {meth : Method} {c : Code} {T : State} {locs : List Loc} {cells slots : Nat}
theorem retI (X : Stand p l e R s m args below meth c T locs cells slots) (hx : p.tables.exec = Jvm.exec) {pc : Nat} {Ls : Array Slot} {z : Int32} {rest : List Value} (hret : meth.sig.returnType = some .int) (hd : decode c.code pc = .ok (.ireturn, 1)) {fs : List Frame}
    (hl : ∀ (f : JFrame) (acts : List Action), f.method = m → f.locked = none → f.entered = [] → (doReturn e (T.setTop f) acts (some (.int z))).1 = T.setFrames fs) : Steps p.tables e below (T.setTop (mkF m pc Ls (.int z :: rest))) (T.setFrames fs) := by
  have hm' : T.vm.method? m = some meth := X.method'
  have hn : narrow .int (.int z) = .int z := rfl
  show Steps p.tables e below (T.setTop { method := m, pc := pc, locals := Ls, stack := _ :: rest, locked := none }) _
  jvm_step X.here [X.here.top, hx, hd, hm', hret, hn]
  first | (intro acts; rw [hl _ acts rfl rfl rfl]) | rw [hl _ _ rfl rfl rfl]
  exact Steps.refl _
theorem retAddr (X : Stand p l e R s m args below meth c T locs cells slots) (hx : p.tables.exec = Jvm.exec) {pc : Nat} {Ls : Array Slot} {z : Addr} {rest : List Value} {t : FieldType} (hret : meth.sig.returnType = some t) (ht : t.isReference = true) (hd : decode c.code pc = .ok (.areturn, 1)) {fs : List Frame}
    (hl : ∀ (f : JFrame) (acts : List Action), f.method = m → f.locked = none → f.entered = [] → (doReturn e (T.setTop f) acts (some (.ref z))).1 = T.setFrames fs) : Steps p.tables e below (T.setTop (mkF m pc Ls (.ref z :: rest))) (T.setFrames fs) := by
  have hm' : T.vm.method? m = some meth := X.method'
  show Steps p.tables e below (T.setTop { method := m, pc := pc, locals := Ls, stack := _ :: rest, locked := none }) _
  jvm_step X.here [X.here.top, hx, hd, hm', hret, ht, Value.isRef]
  first | (intro acts; rw [hl _ acts rfl rfl rfl]) | rw [hl _ _ rfl rfl rfl]
  exact Steps.refl _
end New
end Jvm.RoadKit
namespace Jvm.Pilot.@@N@@
open Jvm Jvm.ClassFile Sem Op Lib Jvm.Free Jvm.Stand Jvm.LawKit Jvm.RoadKit Bundle Jvm.Pilot.@@N@@.Jvm.D
/-- from A the run ends, returning, as Q says of the value, the heap and the places written -/
def own_Fin (tb : Tables) (e : Env) (below : List Frame) (s : State) (C S : Nat) (Q : Option Value → Heap → List Loc → Prop) (A : State) : Prop :=
  ∃ s₂ o, Steps tb e below A s₂ ∧ s₂.status = .running ∧ Ended s₂ below o ∧ ∃ v L, o = .returned v ∧ Q v s₂.heap L ∧ FrameEnd s o s₂ L C S
theorem own_st {tb : Tables} {e : Env} {below : List Frame} {s : State} {C S : Nat} {Q : Option Value → Heap → List Loc → Prop} {A B : State} (h : ∀ t, Steps tb e below B t → Steps tb e below A t) (k : own_Fin tb e below s C S Q B) : own_Fin tb e below s C S Q A := by
  obtain ⟨s₂, o, h1, h2⟩ := k
  exact ⟨s₂, o, h _ h1, h2⟩
section Ret
variable {p : Program} {l : Launch} {e : Env} {R : Room} {s : State} {m : MethodId} {args : Array Value} {below : List Frame} {meth : Method} {c : Code} {T : State} {locs : List Loc} {cells slots : Nat} {Q : Option Value → Heap → List Loc → Prop} {C S : Nat}
theorem own_retN (X : Stand p l e R s m args below meth c T locs cells slots) (hx : p.tables.exec = Jvm.exec) (hk : meth.locks = false) {t : FieldType} (hret : meth.sig.returnType = some t) (ht : t = .boolean ∨ t = .byte ∨ t = .char ∨ t = .short) {pc : Nat} {Ls : Array Slot} {z : Int32} {rest : List Value} (hd : decode c.code pc = .ok (.ireturn, 1)) (hC : cells ≤ C) (hS : slots ≤ S) (hq : Q (some (.int (nar t z))) T.heap locs) : own_Fin p.tables e below s C S Q (T.setTop (mkF m pc Ls (.int z :: rest))) := by
  obtain ⟨fs, hr, hrun, hended, hW, hsame⟩ := X.leave (v := some (.int (nar t z))) (fun h => by rw [hret] at h; cases h)
  exact ⟨_, _, retN X hx hret ht hd hr, hrun, hended, _, _, rfl, hq, ⟨_, rfl⟩, hW, hsame.mono hC hS⟩
theorem own_retI (X : Stand p l e R s m args below meth c T locs cells slots) (hx : p.tables.exec = Jvm.exec) (hk : meth.locks = false) (hret : meth.sig.returnType = some .int) {pc : Nat} {Ls : Array Slot} {z : Int32} {rest : List Value} (hd : decode c.code pc = .ok (.ireturn, 1)) (hC : cells ≤ C) (hS : slots ≤ S) (hq : Q (some (.int z)) T.heap locs) : own_Fin p.tables e below s C S Q (T.setTop (mkF m pc Ls (.int z :: rest))) := by
  obtain ⟨fs, hr, hrun, hended, hW, hsame⟩ := X.leave (v := some (.int z)) (fun h => by rw [hret] at h; cases h)
  exact ⟨_, _, retI X hx hret hd hr, hrun, hended, _, _, rfl, hq, ⟨_, rfl⟩, hW, hsame.mono hC hS⟩
theorem own_retA (X : Stand p l e R s m args below meth c T locs cells slots) (hx : p.tables.exec = Jvm.exec) (hk : meth.locks = false) {t : FieldType} (hret : meth.sig.returnType = some t) (ht : t.isReference = true) {pc : Nat} {Ls : Array Slot} {z : Addr} {rest : List Value} (hd : decode c.code pc = .ok (.areturn, 1)) (hC : cells ≤ C) (hS : slots ≤ S) (hq : Q (some (.ref z)) T.heap locs) : own_Fin p.tables e below s C S Q (T.setTop (mkF m pc Ls (.ref z :: rest))) := by
  obtain ⟨fs, hr, hrun, hended, hW, hsame⟩ := X.leave (v := some (.ref z)) (fun h => by rw [hret] at h; cases h)
  exact ⟨_, _, retAddr X hx hret ht hd hr, hrun, hended, _, _, rfl, hq, ⟨_, rfl⟩, hW, hsame.mono hC hS⟩
theorem own_retJ (X : Stand p l e R s m args below meth c T locs cells slots) (hx : p.tables.exec = Jvm.exec) (hk : meth.locks = false) (hret : meth.sig.returnType = some .long) {pc : Nat} {Ls : Array Slot} {z : Int64} (hd : decode c.code pc = .ok (.lreturn, 1)) (hC : cells ≤ C) (hS : slots ≤ S) (hq : Q (some (.long z)) T.heap locs) : own_Fin p.tables e below s C S Q (T.setTop (mkF m pc Ls [.long z])) := by
  obtain ⟨fs, hr, hrun, hended, hW, hsame⟩ := X.leave (v := some (.long z)) (fun h => by rw [hret] at h; cases h)
  exact ⟨_, _, X.lreturnOut hx hret hd hr, hrun, hended, _, _, rfl, hq, ⟨_, rfl⟩, hW, hsame.mono hC hS⟩
theorem own_retV (X : Stand p l e R s m args below meth c T locs cells slots) (hx : p.tables.exec = Jvm.exec) (hk : meth.locks = false) (hret : meth.sig.returnType = none) {pc : Nat} {Ls : Array Slot} (hd : decode c.code pc = .ok (.return_, 1)) (hC : cells ≤ C) (hS : slots ≤ S) (hq : Q none T.heap locs) : own_Fin p.tables e below s C S Q (T.setTop (mkF m pc Ls [])) := by
  obtain ⟨fs, hr, hrun, hended, hW, hsame⟩ := X.leave (v := none) (fun _ => rfl)
  exact ⟨_, _, X.returnOut hx hret hd hr, hrun, hended, _, _, rfl, hq, ⟨_, rfl⟩, hW, hsame.mono hC hS⟩
end Ret
theorem own_ltT {a b : Int64} (h : a < b) : ifCond.holds .lt (lcmpW a b) = true ∧ ifCond.holds .ge (lcmpW a b) = false := by
  have q := (lw_lt a b).mpr h
  exact ⟨(if0 _ _).trans (tlt q).1, (if0 _ _).trans (tlt q).2.1⟩
theorem own_ltF {a b : Int64} (h : ¬ a < b) : ifCond.holds .lt (lcmpW a b) = false ∧ ifCond.holds .ge (lcmpW a b) = true := by
  have q := mt (lw_lt a b).mp h
  exact ⟨(if0 _ _).trans (flt q).1, (if0 _ _).trans (flt q).2.1⟩
theorem own_gtT {a b : Int64} (h : b < a) : ifCond.holds .gt (lcmpW a b) = true ∧ ifCond.holds .le (lcmpW a b) = false := by
  have q := (lw_gt a b).mpr h
  exact ⟨(if0 _ _).trans (tlt q).2.2.1, (if0 _ _).trans (tlt q).2.2.2⟩
theorem own_gtF {a b : Int64} (h : ¬ b < a) : ifCond.holds .gt (lcmpW a b) = false ∧ ifCond.holds .le (lcmpW a b) = true := by
  have q := mt (lw_gt a b).mp h
  exact ⟨(if0 _ _).trans (flt q).2.2.1, (if0 _ _).trans (flt q).2.2.2⟩
theorem own_eqT {a b : Int64} (h : a = b) : ifCond.holds .eq (lcmpW a b) = true ∧ ifCond.holds .ne (lcmpW a b) = false := by
  have q := (lw_eq a b).mpr h
  exact ⟨(if0 _ _).trans (teq q).1, (if0 _ _).trans (teq q).2⟩
theorem own_eqF {a b : Int64} (h : ¬ a = b) : ifCond.holds .eq (lcmpW a b) = false ∧ ifCond.holds .ne (lcmpW a b) = true := by
  have q := mt (lw_eq a b).mp h
  exact ⟨(if0 _ _).trans (feq q).1, (if0 _ _).trans (feq q).2⟩
theorem d1_0 : decode prog_16_method_3_code 0 = .ok (.iload_n 0, 1) := by decide +kernel
theorem d1_1 : decode prog_16_method_3_code 1 = .ok (.ldc 9, 2) := by decide +kernel
theorem d1_3 : decode prog_16_method_3_code 3 = .ok (.if_icmp .lt 13, 3) := by decide +kernel
theorem d1_6 : decode prog_16_method_3_code 6 = .ok (.iload_n 0, 1) := by decide +kernel
theorem d1_7 : decode prog_16_method_3_code 7 = .ok (.ldc 16, 2) := by decide +kernel
theorem d1_9 : decode prog_16_method_3_code 9 = .ok (.if_icmp .gt 7, 3) := by decide +kernel
theorem d1_12 : decode prog_16_method_3_code 12 = .ok (.iconst 1, 1) := by decide +kernel
theorem d1_13 : decode prog_16_method_3_code 13 = .ok (.goto 4, 3) := by decide +kernel
theorem d1_16 : decode prog_16_method_3_code 16 = .ok (.iconst 0, 1) := by decide +kernel
theorem d1_17 : decode prog_16_method_3_code 17 = .ok (.ireturn, 1) := by decide +kernel
theorem pn_1 : plainFor (⟨"org/forwardtrace/model/UndecodedByte", "isStandIn", "(I)Z"⟩ : MethodName) = true := plainFor_of_name (x := (⟨"org/forwardtrace/model/UndecodedByte", "isStandIn", "(I)Z"⟩ : MethodName)) (by first | (simp [plainName, overriddenIn]; done) | decide +kernel)
theorem ef_1 (m : MethodId) (p1 : Int32) : entryFrame m #[(.int p1)] 1 = mkF m 0 #[.val (.int p1)] [] := by first | (simp [entryFrame, mkF, argsToLocals, Value.category]; done) | rfl
def own_F1 (p1 : Int32) : Int32 := (if p1 < (56320 : Int32) then (0 : Int32) else (if (56575 : Int32) < p1 then (0 : Int32) else (1 : Int32)))
def own_Q1 (p1 : Int32) (h0 : Heap) (n0 : Nat) (v : Option Value) (h : Heap) (L : List Loc) : Prop := v = some (.int (own_F1 p1)) ∧ Fr n0 L ∧ h = h0
set_option maxRecDepth 65536 in
set_option maxHeartbeats 40000000 in
theorem rm1 (l : Launch) (Z : State) (a0 : Array Value) (hw : ∀ d ∈ tables_1, d.before a0 Z = true) (ws : List Jvm.Cond) (p1 : Int32) (h0 : Heap) (n0 : Nat) (Z0 : n0 ≤ h0.size) :
    MetFree l (⟨"org/forwardtrace/model/UndecodedByte", "isStandIn", "(I)Z"⟩ : MethodName) (head1 (Jvm.Cond.code (⟨"org/forwardtrace/model/UndecodedByte", "isStandIn", "(I)Z"⟩ : MethodName) prog_16_method_3_code 1 (some .boolean) :: ws) ({ frames := 0, cells := 0, slots := 0, locals := 0 } : Room)) (fun a U => a = #[(.int p1)] ∧ Z.Warmed39 U.vm ∧ U.heap = h0) (fun _ _ _ _ _ => True) (fun _ U o U' => ∃ v L, o = .returned v ∧ own_Q1 p1 h0 n0 v U'.heap L ∧ FrameEnd U o U' L ({ frames := 0, cells := 0, slots := 0, locals := 0 } : Room).cells ({ frames := 0, cells := 0, slots := 0, locals := 0 } : Room).slots) := by
  refine MetFree.of_bodySF pn_1 hisR ?_
  intro p e s m args below meth c s₁ Bd hml0 hP hK
  obtain ⟨rfl, hZ, hh⟩ := hP
  have hx := Bd.exec
  have hby := Bd.bytes
  have hml : c.maxLocals = 1 := hml0
  have hown : s.vm.findClass "org/forwardtrace/model/UndecodedByte" = some m.cls := findClass_of_methodNamed Bd.named
  have X0 : Stand p l e ({ frames := 0, cells := 0, slots := 0, locals := 0 } : Room) s m #[(.int p1)] below meth c s₁ [] 0 0 := Stand.of_body Bd
  have e0 : s₁.heap = h0 := by rw [← hh, Bd.state]; rfl
  have N0 := Fr.nil n0
  show own_Fin p.tables e below s (({ frames := 0, cells := 0, slots := 0, locals := 0 } : Room).cells) (({ frames := 0, cells := 0, slots := 0, locals := 0 } : Room).slots) (own_Q1 p1 h0 n0) (s₁.setTop (entryFrame m #[(.int p1)] 1))
  rw [ef_1 m p1]
  show own_Fin _ _ _ _ _ _ _ (s₁.setTop (mkF m 0 #[.val (.int p1)] []))
  refine own_st (fun t k => XS.iloadN X0.here hx rfl (hb hby d1_0) rfl k) ?_
  show own_Fin _ _ _ _ _ _ _ (s₁.setTop (mkF m 1 #[.val (.int p1)] [(.int p1)]))
  refine own_st (X0.ldcInt hx hown (mvT hZ (hw _ (List.mem_of_getElem? (i := 4) rfl))) (g := (mkF m 1 #[.val (.int p1)] [(.int p1)])) rfl (hb hby d1_1)) ?_
  show own_Fin _ _ _ _ _ _ _ (s₁.setTop (mkF m 3 #[.val (.int p1)] [(.int (56320 : Int32)), (.int p1)]))
  by_cases hc3_1 : p1 < (56320 : Int32)
  · refine own_st (fun t k => XS.icmpYes X0.here hx rfl (pc0 := 3) (pc' := 16) rfl (hb hby d1_3) rfl (tlt hc3_1).1 (by decide) (by decide) k) ?_
    show own_Fin _ _ _ _ _ _ _ (s₁.setTop (mkF m 16 #[.val (.int p1)] []))
    refine own_st (fun t k => XS.iconst X0.here hx rfl (hb hby d1_16) k) ?_
    show own_Fin _ _ _ _ _ _ _ (s₁.setTop (mkF m 17 #[.val (.int p1)] [(.int (0 : Int32))]))
    have hv : own_F1 p1 = (0 : Int32) := by unfold own_F1; rw [if_pos hc3_1]
    exact own_retN X0 hx Bd.notSynchronized (t := .boolean) Bd.returns (by simp) (hb hby d1_17) (by decide) (by decide) ⟨congrArg (fun z => some (Value.int z)) hv.symm, N0, e0⟩
  · refine own_st (fun t k => XS.icmpNo X0.here hx rfl (hb hby d1_3) rfl (flt hc3_1).1 k) ?_
    show own_Fin _ _ _ _ _ _ _ (s₁.setTop (mkF m 6 #[.val (.int p1)] []))
    refine own_st (fun t k => XS.iloadN X0.here hx rfl (hb hby d1_6) rfl k) ?_
    show own_Fin _ _ _ _ _ _ _ (s₁.setTop (mkF m 7 #[.val (.int p1)] [(.int p1)]))
    refine own_st (X0.ldcInt hx hown (mvT hZ (hw _ (List.mem_of_getElem? (i := 17) rfl))) (g := (mkF m 7 #[.val (.int p1)] [(.int p1)])) rfl (hb hby d1_7)) ?_
    show own_Fin _ _ _ _ _ _ _ (s₁.setTop (mkF m 9 #[.val (.int p1)] [(.int (56575 : Int32)), (.int p1)]))
    by_cases hc9_2 : (56575 : Int32) < p1
    · refine own_st (fun t k => XS.icmpYes X0.here hx rfl (pc0 := 9) (pc' := 16) rfl (hb hby d1_9) rfl (tlt hc9_2).2.2.1 (by decide) (by decide) k) ?_
      show own_Fin _ _ _ _ _ _ _ (s₁.setTop (mkF m 16 #[.val (.int p1)] []))
      refine own_st (fun t k => XS.iconst X0.here hx rfl (hb hby d1_16) k) ?_
      show own_Fin _ _ _ _ _ _ _ (s₁.setTop (mkF m 17 #[.val (.int p1)] [(.int (0 : Int32))]))
      have hv : own_F1 p1 = (0 : Int32) := by unfold own_F1; rw [if_neg hc3_1, if_pos hc9_2]
      exact own_retN X0 hx Bd.notSynchronized (t := .boolean) Bd.returns (by simp) (hb hby d1_17) (by decide) (by decide) ⟨congrArg (fun z => some (Value.int z)) hv.symm, N0, e0⟩
    · refine own_st (fun t k => XS.icmpNo X0.here hx rfl (hb hby d1_9) rfl (flt hc9_2).2.2.1 k) ?_
      show own_Fin _ _ _ _ _ _ _ (s₁.setTop (mkF m 12 #[.val (.int p1)] []))
      refine own_st (fun t k => XS.iconst X0.here hx rfl (hb hby d1_12) k) ?_
      show own_Fin _ _ _ _ _ _ _ (s₁.setTop (mkF m 13 #[.val (.int p1)] [(.int (1 : Int32))]))
      refine own_st (fun t k => XS.goto X0.here hx rfl (pc0 := 13) (pc' := 17) rfl (hb hby d1_13) (by decide) (by decide) k) ?_
      show own_Fin _ _ _ _ _ _ _ (s₁.setTop (mkF m 17 #[.val (.int p1)] [(.int (1 : Int32))]))
      have hv : own_F1 p1 = (1 : Int32) := by unfold own_F1; rw [if_neg hc3_1, if_neg hc9_2]
      exact own_retN X0 hx Bd.notSynchronized (t := .boolean) Bd.returns (by simp) (hb hby d1_17) (by decide) (by decide) ⟨congrArg (fun z => some (Value.int z)) hv.symm, N0, e0⟩
theorem d2_0 : decode method_2_code 0 = .ok (.iload_n 0, 1) := by decide +kernel
theorem d2_1 : decode method_2_code 1 = .ok (.bipush 8, 2) := by decide +kernel
theorem d2_3 : decode method_2_code 3 = .ok (.ishr, 1) := by decide +kernel
theorem d2_4 : decode method_2_code 4 = .ok (.sipush 220, 3) := by decide +kernel
theorem d2_7 : decode method_2_code 7 = .ok (.if_icmp .ne 7, 3) := by decide +kernel
theorem d2_10 : decode method_2_code 10 = .ok (.iconst 1, 1) := by decide +kernel
theorem d2_11 : decode method_2_code 11 = .ok (.goto 4, 3) := by decide +kernel
theorem d2_14 : decode method_2_code 14 = .ok (.iconst 0, 1) := by decide +kernel
theorem d2_15 : decode method_2_code 15 = .ok (.ireturn, 1) := by decide +kernel
theorem pn_2 : plainFor (⟨"org/forwardtrace/model/UndecodedByteIsStandInPinLaw", "inBlock", "(I)Z"⟩ : MethodName) = true := plainFor_of_name (x := (⟨"org/forwardtrace/model/UndecodedByteIsStandInPinLaw", "inBlock", "(I)Z"⟩ : MethodName)) (by first | (simp [plainName, overriddenIn]; done) | decide +kernel)
theorem ef_2 (m : MethodId) (p1 : Int32) : entryFrame m #[(.int p1)] 1 = mkF m 0 #[.val (.int p1)] [] := by first | (simp [entryFrame, mkF, argsToLocals, Value.category]; done) | rfl
def own_F2 (p1 : Int32) : Int32 := (if (p1 >>> ((8 : Int32) &&& 31)) = (220 : Int32) then (1 : Int32) else (0 : Int32))
def own_Q2 (p1 : Int32) (h0 : Heap) (n0 : Nat) (v : Option Value) (h : Heap) (L : List Loc) : Prop := v = some (.int (own_F2 p1)) ∧ Fr n0 L ∧ h = h0
set_option maxRecDepth 65536 in
set_option maxHeartbeats 40000000 in
theorem rm2 (l : Launch) (Z : State) (a0 : Array Value) (hw : ∀ d ∈ tables_1, d.before a0 Z = true) (ws : List Jvm.Cond) (p1 : Int32) (h0 : Heap) (n0 : Nat) (Z0 : n0 ≤ h0.size) :
    MetFree l (⟨"org/forwardtrace/model/UndecodedByteIsStandInPinLaw", "inBlock", "(I)Z"⟩ : MethodName) (head1 (Jvm.Cond.code (⟨"org/forwardtrace/model/UndecodedByteIsStandInPinLaw", "inBlock", "(I)Z"⟩ : MethodName) method_2_code 1 (some .boolean) :: ws) ({ frames := 0, cells := 0, slots := 0, locals := 0 } : Room)) (fun a U => a = #[(.int p1)] ∧ Z.Warmed39 U.vm ∧ U.heap = h0) (fun _ _ _ _ _ => True) (fun _ U o U' => ∃ v L, o = .returned v ∧ own_Q2 p1 h0 n0 v U'.heap L ∧ FrameEnd U o U' L ({ frames := 0, cells := 0, slots := 0, locals := 0 } : Room).cells ({ frames := 0, cells := 0, slots := 0, locals := 0 } : Room).slots) := by
  refine MetFree.of_bodySF pn_2 hisR ?_
  intro p e s m args below meth c s₁ Bd hml0 hP hK
  obtain ⟨rfl, hZ, hh⟩ := hP
  have hx := Bd.exec
  have hby := Bd.bytes
  have hml : c.maxLocals = 1 := hml0
  have hown : s.vm.findClass "org/forwardtrace/model/UndecodedByteIsStandInPinLaw" = some m.cls := findClass_of_methodNamed Bd.named
  have X0 : Stand p l e ({ frames := 0, cells := 0, slots := 0, locals := 0 } : Room) s m #[(.int p1)] below meth c s₁ [] 0 0 := Stand.of_body Bd
  have e0 : s₁.heap = h0 := by rw [← hh, Bd.state]; rfl
  have N0 := Fr.nil n0
  show own_Fin p.tables e below s (({ frames := 0, cells := 0, slots := 0, locals := 0 } : Room).cells) (({ frames := 0, cells := 0, slots := 0, locals := 0 } : Room).slots) (own_Q2 p1 h0 n0) (s₁.setTop (entryFrame m #[(.int p1)] 1))
  rw [ef_2 m p1]
  show own_Fin _ _ _ _ _ _ _ (s₁.setTop (mkF m 0 #[.val (.int p1)] []))
  refine own_st (fun t k => XS.iloadN X0.here hx rfl (hb hby d2_0) rfl k) ?_
  show own_Fin _ _ _ _ _ _ _ (s₁.setTop (mkF m 1 #[.val (.int p1)] [(.int p1)]))
  refine own_st (fun t k => XS.bipush X0.here hx rfl (hb hby d2_1) k) ?_
  show own_Fin _ _ _ _ _ _ _ (s₁.setTop (mkF m 3 #[.val (.int p1)] [(.int (8 : Int32)), (.int p1)]))
  refine own_st (fun t k => XS.ishr X0.here hx rfl (hb hby d2_3) rfl k) ?_
  show own_Fin _ _ _ _ _ _ _ (s₁.setTop (mkF m 4 #[.val (.int p1)] [(.int (p1 >>> ((8 : Int32) &&& 31)))]))
  refine own_st (fun t k => XS.sipush X0.here hx rfl (hb hby d2_4) k) ?_
  show own_Fin _ _ _ _ _ _ _ (s₁.setTop (mkF m 7 #[.val (.int p1)] [(.int (220 : Int32)), (.int (p1 >>> ((8 : Int32) &&& 31)))]))
  by_cases hc7_1 : (p1 >>> ((8 : Int32) &&& 31)) = (220 : Int32)
  · refine own_st (fun t k => XS.icmpNo X0.here hx rfl (hb hby d2_7) rfl (teq hc7_1).2 k) ?_
    show own_Fin _ _ _ _ _ _ _ (s₁.setTop (mkF m 10 #[.val (.int p1)] []))
    refine own_st (fun t k => XS.iconst X0.here hx rfl (hb hby d2_10) k) ?_
    show own_Fin _ _ _ _ _ _ _ (s₁.setTop (mkF m 11 #[.val (.int p1)] [(.int (1 : Int32))]))
    refine own_st (fun t k => XS.goto X0.here hx rfl (pc0 := 11) (pc' := 15) rfl (hb hby d2_11) (by decide) (by decide) k) ?_
    show own_Fin _ _ _ _ _ _ _ (s₁.setTop (mkF m 15 #[.val (.int p1)] [(.int (1 : Int32))]))
    have hv : own_F2 p1 = (1 : Int32) := by unfold own_F2; rw [if_pos hc7_1]
    exact own_retN X0 hx Bd.notSynchronized (t := .boolean) Bd.returns (by simp) (hb hby d2_15) (by decide) (by decide) ⟨congrArg (fun z => some (Value.int z)) hv.symm, N0, e0⟩
  · refine own_st (fun t k => XS.icmpYes X0.here hx rfl (pc0 := 7) (pc' := 14) rfl (hb hby d2_7) rfl (feq hc7_1).2 (by decide) (by decide) k) ?_
    show own_Fin _ _ _ _ _ _ _ (s₁.setTop (mkF m 14 #[.val (.int p1)] []))
    refine own_st (fun t k => XS.iconst X0.here hx rfl (hb hby d2_14) k) ?_
    show own_Fin _ _ _ _ _ _ _ (s₁.setTop (mkF m 15 #[.val (.int p1)] [(.int (0 : Int32))]))
    have hv : own_F2 p1 = (0 : Int32) := by unfold own_F2; rw [if_neg hc7_1]
    exact own_retN X0 hx Bd.notSynchronized (t := .boolean) Bd.returns (by simp) (hb hby d2_15) (by decide) (by decide) ⟨congrArg (fun z => some (Value.int z)) hv.symm, N0, e0⟩
theorem d4_0 : decode jdk_2056_method_24_code 0 = .ok (.iload_n 0, 1) := by decide +kernel
theorem d4_1 : decode jdk_2056_method_24_code 1 = .ok (.sipush 255, 3) := by decide +kernel
theorem d4_4 : decode jdk_2056_method_24_code 4 = .ok (.iand, 1) := by decide +kernel
theorem d4_5 : decode jdk_2056_method_24_code 5 = .ok (.ireturn, 1) := by decide +kernel
theorem pn_4 : plainFor (⟨"java/lang/Byte", "toUnsignedInt", "(B)I"⟩ : MethodName) = true := plainFor_of_name (x := (⟨"java/lang/Byte", "toUnsignedInt", "(B)I"⟩ : MethodName)) (by first | (simp [plainName, overriddenIn]; done) | decide +kernel)
theorem ef_4 (m : MethodId) (p1 : Int32) : entryFrame m #[(.int p1)] 1 = mkF m 0 #[.val (.int p1)] [] := by first | (simp [entryFrame, mkF, argsToLocals, Value.category]; done) | rfl
def own_F4 (p1 : Int32) : Int32 := (p1 &&& (255 : Int32))
def own_Q4 (p1 : Int32) (h0 : Heap) (n0 : Nat) (v : Option Value) (h : Heap) (L : List Loc) : Prop := v = some (.int (own_F4 p1)) ∧ Fr n0 L ∧ h = h0
set_option maxRecDepth 65536 in
set_option maxHeartbeats 40000000 in
theorem rm4 (l : Launch) (Z : State) (a0 : Array Value) (hw : ∀ d ∈ tables_1, d.before a0 Z = true) (ws : List Jvm.Cond) (p1 : Int32) (h0 : Heap) (n0 : Nat) (Z0 : n0 ≤ h0.size) :
    MetFree l (⟨"java/lang/Byte", "toUnsignedInt", "(B)I"⟩ : MethodName) (head1 (Jvm.Cond.code (⟨"java/lang/Byte", "toUnsignedInt", "(B)I"⟩ : MethodName) jdk_2056_method_24_code 1 (some .int) :: ws) ({ frames := 0, cells := 0, slots := 0, locals := 0 } : Room)) (fun a U => a = #[(.int p1)] ∧ Z.Warmed39 U.vm ∧ U.heap = h0) (fun _ _ _ _ _ => True) (fun _ U o U' => ∃ v L, o = .returned v ∧ own_Q4 p1 h0 n0 v U'.heap L ∧ FrameEnd U o U' L ({ frames := 0, cells := 0, slots := 0, locals := 0 } : Room).cells ({ frames := 0, cells := 0, slots := 0, locals := 0 } : Room).slots) := by
  refine MetFree.of_bodySF pn_4 hisR ?_
  intro p e s m args below meth c s₁ Bd hml0 hP hK
  obtain ⟨rfl, hZ, hh⟩ := hP
  have hx := Bd.exec
  have hby := Bd.bytes
  have hml : c.maxLocals = 1 := hml0
  have hown : s.vm.findClass "java/lang/Byte" = some m.cls := findClass_of_methodNamed Bd.named
  have X0 : Stand p l e ({ frames := 0, cells := 0, slots := 0, locals := 0 } : Room) s m #[(.int p1)] below meth c s₁ [] 0 0 := Stand.of_body Bd
  have e0 : s₁.heap = h0 := by rw [← hh, Bd.state]; rfl
  have N0 := Fr.nil n0
  show own_Fin p.tables e below s (({ frames := 0, cells := 0, slots := 0, locals := 0 } : Room).cells) (({ frames := 0, cells := 0, slots := 0, locals := 0 } : Room).slots) (own_Q4 p1 h0 n0) (s₁.setTop (entryFrame m #[(.int p1)] 1))
  rw [ef_4 m p1]
  show own_Fin _ _ _ _ _ _ _ (s₁.setTop (mkF m 0 #[.val (.int p1)] []))
  refine own_st (fun t k => XS.iloadN X0.here hx rfl (hb hby d4_0) rfl k) ?_
  show own_Fin _ _ _ _ _ _ _ (s₁.setTop (mkF m 1 #[.val (.int p1)] [(.int p1)]))
  refine own_st (fun t k => XS.sipush X0.here hx rfl (hb hby d4_1) k) ?_
  show own_Fin _ _ _ _ _ _ _ (s₁.setTop (mkF m 4 #[.val (.int p1)] [(.int (255 : Int32)), (.int p1)]))
  refine own_st (fun t k => XS.iand X0.here hx rfl (hb hby d4_4) rfl k) ?_
  show own_Fin _ _ _ _ _ _ _ (s₁.setTop (mkF m 5 #[.val (.int p1)] [(.int (p1 &&& (255 : Int32)))]))
  have hv : own_F4 p1 = (p1 &&& (255 : Int32)) := rfl
  exact own_retI X0 hx Bd.notSynchronized Bd.returns (hb hby d4_5) (by decide) (by decide) ⟨congrArg (fun z => some (Value.int z)) hv.symm, N0, e0⟩
theorem d3_0 : decode prog_16_method_2_code 0 = .ok (.ldc 9, 2) := by decide +kernel
theorem d3_2 : decode prog_16_method_2_code 2 = .ok (.iload_n 0, 1) := by decide +kernel
theorem d3_3 : decode prog_16_method_2_code 3 = .ok (.invokestatic 10, 3) := by decide +kernel
theorem d3_6 : decode prog_16_method_2_code 6 = .ok (.iadd, 1) := by decide +kernel
theorem d3_7 : decode prog_16_method_2_code 7 = .ok (.i2c, 1) := by decide +kernel
theorem d3_8 : decode prog_16_method_2_code 8 = .ok (.ireturn, 1) := by decide +kernel
theorem pn_3 : plainFor (⟨"org/forwardtrace/model/UndecodedByte", "standIn", "(B)C"⟩ : MethodName) = true := plainFor_of_name (x := (⟨"org/forwardtrace/model/UndecodedByte", "standIn", "(B)C"⟩ : MethodName)) (by first | (simp [plainName, overriddenIn]; done) | decide +kernel)
theorem pd_3_0 : parseMethodDescriptor "(B)I" = some ⟨[.byte], some .int⟩ := by decide +kernel
theorem ef_3 (m : MethodId) (p1 : Int32) : entryFrame m #[(.int p1)] 1 = mkF m 0 #[.val (.int p1)] [] := by first | (simp [entryFrame, mkF, argsToLocals, Value.category]; done) | rfl
def own_F3 (p1 : Int32) : Int32 := (nar .char (((56320 : Int32) + (own_F4 p1)).toUInt32.toUInt16.toUInt32.toInt32))
def own_Q3 (p1 : Int32) (h0 : Heap) (n0 : Nat) (v : Option Value) (h : Heap) (L : List Loc) : Prop := v = some (.int (own_F3 p1)) ∧ Fr n0 L ∧ h = h0
set_option maxRecDepth 65536 in
set_option maxHeartbeats 40000000 in
theorem rm3 (l : Launch) (Z : State) (a0 : Array Value) (hw : ∀ d ∈ tables_1, d.before a0 Z = true) (ws : List Jvm.Cond) (p1 : Int32) (h0 : Heap) (n0 : Nat) (Z0 : n0 ≤ h0.size) :
    MetFree l (⟨"org/forwardtrace/model/UndecodedByte", "standIn", "(B)C"⟩ : MethodName) (head1 (Jvm.Cond.code (⟨"org/forwardtrace/model/UndecodedByte", "standIn", "(B)C"⟩ : MethodName) prog_16_method_2_code 1 (some .char) :: ws) ({ frames := 1, cells := 0, slots := 0, locals := 13 } : Room)) (fun a U => a = #[(.int p1)] ∧ Z.Warmed39 U.vm ∧ U.heap = h0) (fun _ _ _ _ _ => True) (fun _ U o U' => ∃ v L, o = .returned v ∧ own_Q3 p1 h0 n0 v U'.heap L ∧ FrameEnd U o U' L ({ frames := 1, cells := 0, slots := 0, locals := 13 } : Room).cells ({ frames := 1, cells := 0, slots := 0, locals := 13 } : Room).slots) := by
  refine MetFree.of_bodySF pn_3 hisR ?_
  intro p e s m args below meth c s₁ Bd hml0 hP hK
  obtain ⟨rfl, hZ, hh⟩ := hP
  have hx := Bd.exec
  have hby := Bd.bytes
  have hml : c.maxLocals = 1 := hml0
  have hown : s.vm.findClass "org/forwardtrace/model/UndecodedByte" = some m.cls := findClass_of_methodNamed Bd.named
  have X0 : Stand p l e ({ frames := 1, cells := 0, slots := 0, locals := 13 } : Room) s m #[(.int p1)] below meth c s₁ [] 0 0 := Stand.of_body Bd
  have e0 : s₁.heap = h0 := by rw [← hh, Bd.state]; rfl
  have N0 := Fr.nil n0
  show own_Fin p.tables e below s (({ frames := 1, cells := 0, slots := 0, locals := 13 } : Room).cells) (({ frames := 1, cells := 0, slots := 0, locals := 13 } : Room).slots) (own_Q3 p1 h0 n0) (s₁.setTop (entryFrame m #[(.int p1)] 1))
  rw [ef_3 m p1]
  show own_Fin _ _ _ _ _ _ _ (s₁.setTop (mkF m 0 #[.val (.int p1)] []))
  refine own_st (X0.ldcInt hx hown (mvT hZ (hw _ (List.mem_of_getElem? (i := 4) rfl))) (g := (mkF m 0 #[.val (.int p1)] [])) rfl (hb hby d3_0)) ?_
  show own_Fin _ _ _ _ _ _ _ (s₁.setTop (mkF m 2 #[.val (.int p1)] [(.int (56320 : Int32))]))
  refine own_st (fun t k => XS.iloadN X0.here hx rfl (hb hby d3_2) rfl k) ?_
  show own_Fin _ _ _ _ _ _ _ (s₁.setTop (mkF m 3 #[.val (.int p1)] [(.int p1), (.int (56320 : Int32))]))
  obtain ⟨_, _, ⟨T1, L1, k1, n1⟩, -, X1, ⟨Lc1, hQ1, l1, y1, z1⟩, st1⟩ := Jvm.LawKit.callS X0 hx (y := (⟨"java/lang/Byte", "toUnsignedInt", "(B)I"⟩ : MethodName)) hown (mvT hZ (hw _ (List.mem_of_getElem? (i := 13) rfl))) (mvT hZ (hw _ (List.mem_of_getElem? (i := 14) rfl))) (mvT hZ (hw _ (List.mem_of_getElem? (i := 15) rfl))) (mvT hZ (hw _ (List.mem_of_getElem? (i := 16) rfl))) (by decide) (backOf (W := 1) (rm4 l Z a0 hw [] p1 h0 n0 Z0) hZ (hw _ (List.mem_of_getElem? (i := 16) rfl)) (hw _ (List.mem_of_getElem? (i := 15) rfl)) (by decide) (by decide)) (g := (mkF m 3 #[.val (.int p1)] [(.int p1), (.int (56320 : Int32))])) rfl (by rw [hml]; rfl) (argsL := [(.int p1)]) (rest := [(.int (56320 : Int32))]) (lenOf pd_3_0 rfl) rfl (by show 2 * 0 + _ ≤ _; exact Nat.le_of_eq rfl) (hb hby d3_3) (fun _ _ => ⟨rfl, e0, (by decide : 0 + 0 ≤ _), (by decide : 0 + 0 ≤ _)⟩)
  dsimp only [Pt.U, Pt.locs, Pt.cells, Pt.slots] at X1 l1 y1 z1 st1 hQ1
  subst l1 y1 z1
  obtain ⟨rfl, N1q, e1⟩ := hQ1
  have N1 := Fr.app N0 N1q
  refine own_st st1 ?_
  show own_Fin _ _ _ _ _ _ _ (T1.setTop (mkF m 6 #[.val (.int p1)] [(.int (own_F4 p1)), (.int (56320 : Int32))]))
  refine own_st (fun t k => XS.iadd X1.here hx rfl (hb hby d3_6) rfl k) ?_
  show own_Fin _ _ _ _ _ _ _ (T1.setTop (mkF m 7 #[.val (.int p1)] [(.int ((56320 : Int32) + (own_F4 p1)))]))
  refine own_st (fun t k => XS.i2c X1.here hx rfl (hb hby d3_7) rfl k) ?_
  show own_Fin _ _ _ _ _ _ _ (T1.setTop (mkF m 8 #[.val (.int p1)] [(.int (((56320 : Int32) + (own_F4 p1)).toUInt32.toUInt16.toUInt32.toInt32))]))
  have hv : own_F3 p1 = (nar .char (((56320 : Int32) + (own_F4 p1)).toUInt32.toUInt16.toUInt32.toInt32)) := rfl
  exact own_retN X1 hx Bd.notSynchronized (t := .char) Bd.returns (by simp) (hb hby d3_8) (by decide) (by decide) ⟨congrArg (fun z => some (Value.int z)) hv.symm, N1, e1⟩
theorem pn_0 : plainFor x = true := plainFor_of_name (x := x) (by first | (simp [plainName, overriddenIn]; done) | decide +kernel)
theorem pd_0_0 : parseMethodDescriptor "(I)Z" = some ⟨[.int], some .boolean⟩ := by decide +kernel
theorem pd_0_1 : parseMethodDescriptor "(B)C" = some ⟨[.byte], some .char⟩ := by decide +kernel
theorem ef_0 (m : MethodId) (p1 : Int32) (p2 : Int32) : entryFrame m #[(.int p1), (.int p2)] maxLocals = mkF m 0 #[.val (.int p1), .val (.int p2), .unset, .unset, .unset, .unset, .unset] [] := by first | (simp [entryFrame, mkF, argsToLocals, Value.category, maxLocals]; done) | rfl
def own_F0 (p1 : Int32) (p2 : Int32) : Int32 := (if (own_F1 p1) = (own_F2 p1) then (if (own_F1 ((56304 : Int32) + (p2 &&& (511 : Int32)))) = (own_F2 ((56304 : Int32) + (p2 &&& (511 : Int32)))) then (if (own_F1 (own_F3 (p2.toInt8.toInt32))) = (0 : Int32) then (0 : Int32) else (1 : Int32)) else (0 : Int32)) else (if (own_F1 ((56304 : Int32) + (p2 &&& (511 : Int32)))) = (own_F2 ((56304 : Int32) + (p2 &&& (511 : Int32)))) then (0 : Int32) else (0 : Int32)))
def own_Q0 (p1 : Int32) (p2 : Int32) (h0 : Heap) (n0 : Nat) (v : Option Value) (h : Heap) (L : List Loc) : Prop := v = some (.int (own_F0 p1 p2)) ∧ Fr n0 L ∧ h = h0
set_option maxRecDepth 65536 in
set_option maxHeartbeats 40000000 in
theorem rm0 (l : Launch) (Z : State) (a0 : Array Value) (hw : ∀ d ∈ tables_1, d.before a0 Z = true) (ws : List Jvm.Cond) (p1 : Int32) (p2 : Int32) (h0 : Heap) (n0 : Nat) (Z0 : n0 ≤ h0.size) :
    MetFree l x (head1 (Jvm.Cond.code x code maxLocals ret :: ws) room_1) (fun a U => a = #[(.int p1), (.int p2)] ∧ Z.Warmed39 U.vm ∧ U.heap = h0) (fun _ _ _ _ _ => True) (fun _ U o U' => ∃ v L, o = .returned v ∧ own_Q0 p1 p2 h0 n0 v U'.heap L ∧ FrameEnd U o U' L 0 0) := by
  refine MetFree.of_bodySF pn_0 hisR ?_
  intro p e s m args below meth c s₁ Bd hml0 hP hK
  obtain ⟨rfl, hZ, hh⟩ := hP
  have hx := Bd.exec
  have hby := Bd.bytes
  have hml : c.maxLocals = 7 := hml0
  have hown : s.vm.findClass "org/forwardtrace/model/UndecodedByteIsStandInPinLaw" = some m.cls := findClass_of_methodNamed Bd.named
  have X0 : Stand p l e room_1 s m #[(.int p1), (.int p2)] below meth c s₁ [] 0 0 := Stand.of_body Bd
  have e0 : s₁.heap = h0 := by rw [← hh, Bd.state]; rfl
  have N0 := Fr.nil n0
  show own_Fin p.tables e below s (0) (0) (own_Q0 p1 p2 h0 n0) (s₁.setTop (entryFrame m #[(.int p1), (.int p2)] maxLocals))
  rw [ef_0 m p1 p2]
  show own_Fin _ _ _ _ _ _ _ (s₁.setTop (mkF m 0 #[.val (.int p1), .val (.int p2), .unset, .unset, .unset, .unset, .unset] []))
  refine own_st (fun t k => XS.iloadN X0.here hx rfl (hb hby at_0) rfl k) ?_
  show own_Fin _ _ _ _ _ _ _ (s₁.setTop (mkF m 1 #[.val (.int p1), .val (.int p2), .unset, .unset, .unset, .unset, .unset] [(.int p1)]))
  obtain ⟨_, _, ⟨T1, L1, k1, n1⟩, -, X1, ⟨Lc1, hQ1, l1, y1, z1⟩, st1⟩ := Jvm.LawKit.callS X0 hx (y := (⟨"org/forwardtrace/model/UndecodedByte", "isStandIn", "(I)Z"⟩ : MethodName)) hown (mvT hZ (hw _ (List.mem_of_getElem? (i := 0) rfl))) (mvT hZ (hw _ (List.mem_of_getElem? (i := 1) rfl))) (mvT hZ (hw _ (List.mem_of_getElem? (i := 2) rfl))) (mvT hZ (hw _ (List.mem_of_getElem? (i := 3) rfl))) (by decide) (backOf (W := 0) (rm1 l Z a0 hw [] p1 h0 n0 Z0) hZ (hw _ (List.mem_of_getElem? (i := 3) rfl)) (hw _ (List.mem_of_getElem? (i := 2) rfl)) (by decide) (by decide)) (g := (mkF m 1 #[.val (.int p1), .val (.int p2), .unset, .unset, .unset, .unset, .unset] [(.int p1)])) rfl (by rw [hml]; rfl) (argsL := [(.int p1)]) (rest := []) (lenOf pd_0_0 rfl) rfl (by show 2 * 0 + _ ≤ _; exact Nat.le_of_eq rfl) (hb hby at_1) (fun _ _ => ⟨rfl, e0, (by decide : 0 + 0 ≤ _), (by decide : 0 + 0 ≤ _)⟩)
  dsimp only [Pt.U, Pt.locs, Pt.cells, Pt.slots] at X1 l1 y1 z1 st1 hQ1
  subst l1 y1 z1
  obtain ⟨rfl, N1q, e1⟩ := hQ1
  have N1 := Fr.app N0 N1q
  refine own_st st1 ?_
  show own_Fin _ _ _ _ _ _ _ (T1.setTop (mkF m 4 #[.val (.int p1), .val (.int p2), .unset, .unset, .unset, .unset, .unset] [(.int (own_F1 p1))]))
  refine own_st (fun t k => XS.iloadN X1.here hx rfl (hb hby at_4) rfl k) ?_
  show own_Fin _ _ _ _ _ _ _ (T1.setTop (mkF m 5 #[.val (.int p1), .val (.int p2), .unset, .unset, .unset, .unset, .unset] [(.int p1), (.int (own_F1 p1))]))
  obtain ⟨_, _, ⟨T2, L2, k2, n2⟩, -, X2, ⟨Lc2, hQ2, l2, y2, z2⟩, st2⟩ := Jvm.LawKit.callS X1 hx (y := (⟨"org/forwardtrace/model/UndecodedByteIsStandInPinLaw", "inBlock", "(I)Z"⟩ : MethodName)) hown (mvT hZ (hw _ (List.mem_of_getElem? (i := 5) rfl))) (mvT hZ (hw _ (List.mem_of_getElem? (i := 6) rfl))) (mvT hZ (hw _ (List.mem_of_getElem? (i := 7) rfl))) (mvT hZ (hw _ (List.mem_of_getElem? (i := 8) rfl))) (by decide) (backOf (W := 1) (rm2 l Z a0 hw [] p1 h0 n0 Z0) hZ (hw _ (List.mem_of_getElem? (i := 8) rfl)) (hw _ (List.mem_of_getElem? (i := 7) rfl)) (by decide) (by decide)) (g := (mkF m 5 #[.val (.int p1), .val (.int p2), .unset, .unset, .unset, .unset, .unset] [(.int p1), (.int (own_F1 p1))])) rfl (by rw [hml]; rfl) (argsL := [(.int p1)]) (rest := [(.int (own_F1 p1))]) (lenOf pd_0_0 rfl) rfl (by show 2 * 0 + _ ≤ _; exact Nat.le_of_eq rfl) (hb hby at_5) (fun _ _ => ⟨rfl, e1, (by decide : 0 + 0 ≤ _), (by decide : 0 + 0 ≤ _)⟩)
  dsimp only [Pt.U, Pt.locs, Pt.cells, Pt.slots] at X2 l2 y2 z2 st2 hQ2
  subst l2 y2 z2
  obtain ⟨rfl, N2q, e2⟩ := hQ2
  have N2 := Fr.app N1 N2q
  refine own_st st2 ?_
  show own_Fin _ _ _ _ _ _ _ (T2.setTop (mkF m 8 #[.val (.int p1), .val (.int p2), .unset, .unset, .unset, .unset, .unset] [(.int (own_F2 p1)), (.int (own_F1 p1))]))
  by_cases hc8_3 : (own_F1 p1) = (own_F2 p1)
  · refine own_st (fun t k => XS.icmpNo X2.here hx rfl (hb hby at_8) rfl (teq hc8_3).2 k) ?_
    show own_Fin _ _ _ _ _ _ _ (T2.setTop (mkF m 11 #[.val (.int p1), .val (.int p2), .unset, .unset, .unset, .unset, .unset] []))
    refine own_st (fun t k => XS.iconst X2.here hx rfl (hb hby at_11) k) ?_
    show own_Fin _ _ _ _ _ _ _ (T2.setTop (mkF m 12 #[.val (.int p1), .val (.int p2), .unset, .unset, .unset, .unset, .unset] [(.int (1 : Int32))]))
    refine own_st (fun t k => XS.goto X2.here hx rfl (pc0 := 12) (pc' := 16) rfl (hb hby at_12) (by decide) (by decide) k) ?_
    show own_Fin _ _ _ _ _ _ _ (T2.setTop (mkF m 16 #[.val (.int p1), .val (.int p2), .unset, .unset, .unset, .unset, .unset] [(.int (1 : Int32))]))
    refine own_st (fun t k => XS.istoreN X2.here hx rfl (hb hby at_16) rfl (l' := #[.val (.int p1), .val (.int p2), .val (.int (1 : Int32)), .unset, .unset, .unset, .unset]) rfl k) ?_
    show own_Fin _ _ _ _ _ _ _ (T2.setTop (mkF m 17 #[.val (.int p1), .val (.int p2), .val (.int (1 : Int32)), .unset, .unset, .unset, .unset] []))
    refine own_st (X2.ldcInt hx hown (mvT hZ (hw _ (List.mem_of_getElem? (i := 9) rfl))) (g := (mkF m 17 #[.val (.int p1), .val (.int p2), .val (.int (1 : Int32)), .unset, .unset, .unset, .unset] [])) rfl (hb hby at_17)) ?_
    show own_Fin _ _ _ _ _ _ _ (T2.setTop (mkF m 19 #[.val (.int p1), .val (.int p2), .val (.int (1 : Int32)), .unset, .unset, .unset, .unset] [(.int (56304 : Int32))]))
    refine own_st (fun t k => XS.iloadN X2.here hx rfl (hb hby at_19) rfl k) ?_
    show own_Fin _ _ _ _ _ _ _ (T2.setTop (mkF m 20 #[.val (.int p1), .val (.int p2), .val (.int (1 : Int32)), .unset, .unset, .unset, .unset] [(.int p2), (.int (56304 : Int32))]))
    refine own_st (fun t k => XS.sipush X2.here hx rfl (hb hby at_20) k) ?_
    show own_Fin _ _ _ _ _ _ _ (T2.setTop (mkF m 23 #[.val (.int p1), .val (.int p2), .val (.int (1 : Int32)), .unset, .unset, .unset, .unset] [(.int (511 : Int32)), (.int p2), (.int (56304 : Int32))]))
    refine own_st (fun t k => XS.iand X2.here hx rfl (hb hby at_23) rfl k) ?_
    show own_Fin _ _ _ _ _ _ _ (T2.setTop (mkF m 24 #[.val (.int p1), .val (.int p2), .val (.int (1 : Int32)), .unset, .unset, .unset, .unset] [(.int (p2 &&& (511 : Int32))), (.int (56304 : Int32))]))
    refine own_st (fun t k => XS.iadd X2.here hx rfl (hb hby at_24) rfl k) ?_
    show own_Fin _ _ _ _ _ _ _ (T2.setTop (mkF m 25 #[.val (.int p1), .val (.int p2), .val (.int (1 : Int32)), .unset, .unset, .unset, .unset] [(.int ((56304 : Int32) + (p2 &&& (511 : Int32))))]))
    refine own_st (fun t k => XS.istoreN X2.here hx rfl (hb hby at_25) rfl (l' := #[.val (.int p1), .val (.int p2), .val (.int (1 : Int32)), .val (.int ((56304 : Int32) + (p2 &&& (511 : Int32)))), .unset, .unset, .unset]) rfl k) ?_
    show own_Fin _ _ _ _ _ _ _ (T2.setTop (mkF m 26 #[.val (.int p1), .val (.int p2), .val (.int (1 : Int32)), .val (.int ((56304 : Int32) + (p2 &&& (511 : Int32)))), .unset, .unset, .unset] []))
    refine own_st (fun t k => XS.iloadN X2.here hx rfl (hb hby at_26) rfl k) ?_
    show own_Fin _ _ _ _ _ _ _ (T2.setTop (mkF m 27 #[.val (.int p1), .val (.int p2), .val (.int (1 : Int32)), .val (.int ((56304 : Int32) + (p2 &&& (511 : Int32)))), .unset, .unset, .unset] [(.int ((56304 : Int32) + (p2 &&& (511 : Int32))))]))
    obtain ⟨_, _, ⟨T4, L4, k4, n4⟩, -, X4, ⟨Lc4, hQ4, l4, y4, z4⟩, st4⟩ := Jvm.LawKit.callS X2 hx (y := (⟨"org/forwardtrace/model/UndecodedByte", "isStandIn", "(I)Z"⟩ : MethodName)) hown (mvT hZ (hw _ (List.mem_of_getElem? (i := 0) rfl))) (mvT hZ (hw _ (List.mem_of_getElem? (i := 1) rfl))) (mvT hZ (hw _ (List.mem_of_getElem? (i := 2) rfl))) (mvT hZ (hw _ (List.mem_of_getElem? (i := 3) rfl))) (by decide) (backOf (W := 0) (rm1 l Z a0 hw [] ((56304 : Int32) + (p2 &&& (511 : Int32))) h0 n0 Z0) hZ (hw _ (List.mem_of_getElem? (i := 3) rfl)) (hw _ (List.mem_of_getElem? (i := 2) rfl)) (by decide) (by decide)) (g := (mkF m 27 #[.val (.int p1), .val (.int p2), .val (.int (1 : Int32)), .val (.int ((56304 : Int32) + (p2 &&& (511 : Int32)))), .unset, .unset, .unset] [(.int ((56304 : Int32) + (p2 &&& (511 : Int32))))])) rfl (by rw [hml]; rfl) (argsL := [(.int ((56304 : Int32) + (p2 &&& (511 : Int32))))]) (rest := []) (lenOf pd_0_0 rfl) rfl (by show 2 * 0 + _ ≤ _; exact Nat.le_of_eq rfl) (hb hby at_27) (fun _ _ => ⟨rfl, e2, (by decide : 0 + 0 ≤ _), (by decide : 0 + 0 ≤ _)⟩)
    dsimp only [Pt.U, Pt.locs, Pt.cells, Pt.slots] at X4 l4 y4 z4 st4 hQ4
    subst l4 y4 z4
    obtain ⟨rfl, N4q, e4⟩ := hQ4
    have N4 := Fr.app N2 N4q
    refine own_st st4 ?_
    show own_Fin _ _ _ _ _ _ _ (T4.setTop (mkF m 30 #[.val (.int p1), .val (.int p2), .val (.int (1 : Int32)), .val (.int ((56304 : Int32) + (p2 &&& (511 : Int32)))), .unset, .unset, .unset] [(.int (own_F1 ((56304 : Int32) + (p2 &&& (511 : Int32)))))]))
    refine own_st (fun t k => XS.iloadN X4.here hx rfl (hb hby at_30) rfl k) ?_
    show own_Fin _ _ _ _ _ _ _ (T4.setTop (mkF m 31 #[.val (.int p1), .val (.int p2), .val (.int (1 : Int32)), .val (.int ((56304 : Int32) + (p2 &&& (511 : Int32)))), .unset, .unset, .unset] [(.int ((56304 : Int32) + (p2 &&& (511 : Int32)))), (.int (own_F1 ((56304 : Int32) + (p2 &&& (511 : Int32)))))]))
    obtain ⟨_, _, ⟨T5, L5, k5, n5⟩, -, X5, ⟨Lc5, hQ5, l5, y5, z5⟩, st5⟩ := Jvm.LawKit.callS X4 hx (y := (⟨"org/forwardtrace/model/UndecodedByteIsStandInPinLaw", "inBlock", "(I)Z"⟩ : MethodName)) hown (mvT hZ (hw _ (List.mem_of_getElem? (i := 5) rfl))) (mvT hZ (hw _ (List.mem_of_getElem? (i := 6) rfl))) (mvT hZ (hw _ (List.mem_of_getElem? (i := 7) rfl))) (mvT hZ (hw _ (List.mem_of_getElem? (i := 8) rfl))) (by decide) (backOf (W := 1) (rm2 l Z a0 hw [] ((56304 : Int32) + (p2 &&& (511 : Int32))) h0 n0 Z0) hZ (hw _ (List.mem_of_getElem? (i := 8) rfl)) (hw _ (List.mem_of_getElem? (i := 7) rfl)) (by decide) (by decide)) (g := (mkF m 31 #[.val (.int p1), .val (.int p2), .val (.int (1 : Int32)), .val (.int ((56304 : Int32) + (p2 &&& (511 : Int32)))), .unset, .unset, .unset] [(.int ((56304 : Int32) + (p2 &&& (511 : Int32)))), (.int (own_F1 ((56304 : Int32) + (p2 &&& (511 : Int32)))))])) rfl (by rw [hml]; rfl) (argsL := [(.int ((56304 : Int32) + (p2 &&& (511 : Int32))))]) (rest := [(.int (own_F1 ((56304 : Int32) + (p2 &&& (511 : Int32)))))]) (lenOf pd_0_0 rfl) rfl (by show 2 * 0 + _ ≤ _; exact Nat.le_of_eq rfl) (hb hby at_31) (fun _ _ => ⟨rfl, e4, (by decide : 0 + 0 ≤ _), (by decide : 0 + 0 ≤ _)⟩)
    dsimp only [Pt.U, Pt.locs, Pt.cells, Pt.slots] at X5 l5 y5 z5 st5 hQ5
    subst l5 y5 z5
    obtain ⟨rfl, N5q, e5⟩ := hQ5
    have N5 := Fr.app N4 N5q
    refine own_st st5 ?_
    show own_Fin _ _ _ _ _ _ _ (T5.setTop (mkF m 34 #[.val (.int p1), .val (.int p2), .val (.int (1 : Int32)), .val (.int ((56304 : Int32) + (p2 &&& (511 : Int32)))), .unset, .unset, .unset] [(.int (own_F2 ((56304 : Int32) + (p2 &&& (511 : Int32))))), (.int (own_F1 ((56304 : Int32) + (p2 &&& (511 : Int32)))))]))
    by_cases hc34_6 : (own_F1 ((56304 : Int32) + (p2 &&& (511 : Int32)))) = (own_F2 ((56304 : Int32) + (p2 &&& (511 : Int32))))
    · refine own_st (fun t k => XS.icmpNo X5.here hx rfl (hb hby at_34) rfl (teq hc34_6).2 k) ?_
      show own_Fin _ _ _ _ _ _ _ (T5.setTop (mkF m 37 #[.val (.int p1), .val (.int p2), .val (.int (1 : Int32)), .val (.int ((56304 : Int32) + (p2 &&& (511 : Int32)))), .unset, .unset, .unset] []))
      refine own_st (fun t k => XS.iconst X5.here hx rfl (hb hby at_37) k) ?_
      show own_Fin _ _ _ _ _ _ _ (T5.setTop (mkF m 38 #[.val (.int p1), .val (.int p2), .val (.int (1 : Int32)), .val (.int ((56304 : Int32) + (p2 &&& (511 : Int32)))), .unset, .unset, .unset] [(.int (1 : Int32))]))
      refine own_st (fun t k => XS.goto X5.here hx rfl (pc0 := 38) (pc' := 42) rfl (hb hby at_38) (by decide) (by decide) k) ?_
      show own_Fin _ _ _ _ _ _ _ (T5.setTop (mkF m 42 #[.val (.int p1), .val (.int p2), .val (.int (1 : Int32)), .val (.int ((56304 : Int32) + (p2 &&& (511 : Int32)))), .unset, .unset, .unset] [(.int (1 : Int32))]))
      refine own_st (fun t k => XS.istore X5.here hx rfl (hb hby at_42) rfl (l' := #[.val (.int p1), .val (.int p2), .val (.int (1 : Int32)), .val (.int ((56304 : Int32) + (p2 &&& (511 : Int32)))), .val (.int (1 : Int32)), .unset, .unset]) rfl k) ?_
      show own_Fin _ _ _ _ _ _ _ (T5.setTop (mkF m 44 #[.val (.int p1), .val (.int p2), .val (.int (1 : Int32)), .val (.int ((56304 : Int32) + (p2 &&& (511 : Int32)))), .val (.int (1 : Int32)), .unset, .unset] []))
      refine own_st (fun t k => XS.iloadN X5.here hx rfl (hb hby at_44) rfl k) ?_
      show own_Fin _ _ _ _ _ _ _ (T5.setTop (mkF m 45 #[.val (.int p1), .val (.int p2), .val (.int (1 : Int32)), .val (.int ((56304 : Int32) + (p2 &&& (511 : Int32)))), .val (.int (1 : Int32)), .unset, .unset] [(.int p2)]))
      refine own_st (fun t k => XS.i2b X5.here hx rfl (hb hby at_45) rfl k) ?_
      show own_Fin _ _ _ _ _ _ _ (T5.setTop (mkF m 46 #[.val (.int p1), .val (.int p2), .val (.int (1 : Int32)), .val (.int ((56304 : Int32) + (p2 &&& (511 : Int32)))), .val (.int (1 : Int32)), .unset, .unset] [(.int (p2.toInt8.toInt32))]))
      obtain ⟨_, _, ⟨T7, L7, k7, n7⟩, -, X7, ⟨Lc7, hQ7, l7, y7, z7⟩, st7⟩ := Jvm.LawKit.callS X5 hx (y := (⟨"org/forwardtrace/model/UndecodedByte", "standIn", "(B)C"⟩ : MethodName)) hown (mvT hZ (hw _ (List.mem_of_getElem? (i := 10) rfl))) (mvT hZ (hw _ (List.mem_of_getElem? (i := 11) rfl))) (mvT hZ (hw _ (List.mem_of_getElem? (i := 2) rfl))) (mvT hZ (hw _ (List.mem_of_getElem? (i := 12) rfl))) (by decide) (backOf (W := 0) (rm3 l Z a0 hw [] (p2.toInt8.toInt32) h0 n0 Z0) hZ (hw _ (List.mem_of_getElem? (i := 12) rfl)) (hw _ (List.mem_of_getElem? (i := 2) rfl)) (by decide) (by decide)) (g := (mkF m 46 #[.val (.int p1), .val (.int p2), .val (.int (1 : Int32)), .val (.int ((56304 : Int32) + (p2 &&& (511 : Int32)))), .val (.int (1 : Int32)), .unset, .unset] [(.int (p2.toInt8.toInt32))])) rfl (by rw [hml]; rfl) (argsL := [(.int (p2.toInt8.toInt32))]) (rest := []) (lenOf pd_0_1 rfl) rfl (by show 2 * 0 + _ ≤ _; exact Nat.le_of_eq rfl) (hb hby at_46) (fun _ _ => ⟨rfl, e5, (by decide : 0 + 0 ≤ _), (by decide : 0 + 0 ≤ _)⟩)
      dsimp only [Pt.U, Pt.locs, Pt.cells, Pt.slots] at X7 l7 y7 z7 st7 hQ7
      subst l7 y7 z7
      obtain ⟨rfl, N7q, e7⟩ := hQ7
      have N7 := Fr.app N5 N7q
      refine own_st st7 ?_
      show own_Fin _ _ _ _ _ _ _ (T7.setTop (mkF m 49 #[.val (.int p1), .val (.int p2), .val (.int (1 : Int32)), .val (.int ((56304 : Int32) + (p2 &&& (511 : Int32)))), .val (.int (1 : Int32)), .unset, .unset] [(.int (own_F3 (p2.toInt8.toInt32)))]))
      refine own_st (fun t k => XS.istore X7.here hx rfl (hb hby at_49) rfl (l' := #[.val (.int p1), .val (.int p2), .val (.int (1 : Int32)), .val (.int ((56304 : Int32) + (p2 &&& (511 : Int32)))), .val (.int (1 : Int32)), .val (.int (own_F3 (p2.toInt8.toInt32))), .unset]) rfl k) ?_
      show own_Fin _ _ _ _ _ _ _ (T7.setTop (mkF m 51 #[.val (.int p1), .val (.int p2), .val (.int (1 : Int32)), .val (.int ((56304 : Int32) + (p2 &&& (511 : Int32)))), .val (.int (1 : Int32)), .val (.int (own_F3 (p2.toInt8.toInt32))), .unset] []))
      refine own_st (fun t k => XS.iload X7.here hx rfl (hb hby at_51) rfl k) ?_
      show own_Fin _ _ _ _ _ _ _ (T7.setTop (mkF m 53 #[.val (.int p1), .val (.int p2), .val (.int (1 : Int32)), .val (.int ((56304 : Int32) + (p2 &&& (511 : Int32)))), .val (.int (1 : Int32)), .val (.int (own_F3 (p2.toInt8.toInt32))), .unset] [(.int (own_F3 (p2.toInt8.toInt32)))]))
      obtain ⟨_, _, ⟨T8, L8, k8, n8⟩, -, X8, ⟨Lc8, hQ8, l8, y8, z8⟩, st8⟩ := Jvm.LawKit.callS X7 hx (y := (⟨"org/forwardtrace/model/UndecodedByte", "isStandIn", "(I)Z"⟩ : MethodName)) hown (mvT hZ (hw _ (List.mem_of_getElem? (i := 0) rfl))) (mvT hZ (hw _ (List.mem_of_getElem? (i := 1) rfl))) (mvT hZ (hw _ (List.mem_of_getElem? (i := 2) rfl))) (mvT hZ (hw _ (List.mem_of_getElem? (i := 3) rfl))) (by decide) (backOf (W := 0) (rm1 l Z a0 hw [] (own_F3 (p2.toInt8.toInt32)) h0 n0 Z0) hZ (hw _ (List.mem_of_getElem? (i := 3) rfl)) (hw _ (List.mem_of_getElem? (i := 2) rfl)) (by decide) (by decide)) (g := (mkF m 53 #[.val (.int p1), .val (.int p2), .val (.int (1 : Int32)), .val (.int ((56304 : Int32) + (p2 &&& (511 : Int32)))), .val (.int (1 : Int32)), .val (.int (own_F3 (p2.toInt8.toInt32))), .unset] [(.int (own_F3 (p2.toInt8.toInt32)))])) rfl (by rw [hml]; rfl) (argsL := [(.int (own_F3 (p2.toInt8.toInt32)))]) (rest := []) (lenOf pd_0_0 rfl) rfl (by show 2 * 0 + _ ≤ _; exact Nat.le_of_eq rfl) (hb hby at_53) (fun _ _ => ⟨rfl, e7, (by decide : 0 + 0 ≤ _), (by decide : 0 + 0 ≤ _)⟩)
      dsimp only [Pt.U, Pt.locs, Pt.cells, Pt.slots] at X8 l8 y8 z8 st8 hQ8
      subst l8 y8 z8
      obtain ⟨rfl, N8q, e8⟩ := hQ8
      have N8 := Fr.app N7 N8q
      refine own_st st8 ?_
      show own_Fin _ _ _ _ _ _ _ (T8.setTop (mkF m 56 #[.val (.int p1), .val (.int p2), .val (.int (1 : Int32)), .val (.int ((56304 : Int32) + (p2 &&& (511 : Int32)))), .val (.int (1 : Int32)), .val (.int (own_F3 (p2.toInt8.toInt32))), .unset] [(.int (own_F1 (own_F3 (p2.toInt8.toInt32))))]))
      refine own_st (fun t k => XS.istore X8.here hx rfl (hb hby at_56) rfl (l' := #[.val (.int p1), .val (.int p2), .val (.int (1 : Int32)), .val (.int ((56304 : Int32) + (p2 &&& (511 : Int32)))), .val (.int (1 : Int32)), .val (.int (own_F3 (p2.toInt8.toInt32))), .val (.int (own_F1 (own_F3 (p2.toInt8.toInt32))))]) rfl k) ?_
      show own_Fin _ _ _ _ _ _ _ (T8.setTop (mkF m 58 #[.val (.int p1), .val (.int p2), .val (.int (1 : Int32)), .val (.int ((56304 : Int32) + (p2 &&& (511 : Int32)))), .val (.int (1 : Int32)), .val (.int (own_F3 (p2.toInt8.toInt32))), .val (.int (own_F1 (own_F3 (p2.toInt8.toInt32))))] []))
      refine own_st (fun t k => XS.iloadN X8.here hx rfl (hb hby at_58) rfl k) ?_
      show own_Fin _ _ _ _ _ _ _ (T8.setTop (mkF m 59 #[.val (.int p1), .val (.int p2), .val (.int (1 : Int32)), .val (.int ((56304 : Int32) + (p2 &&& (511 : Int32)))), .val (.int (1 : Int32)), .val (.int (own_F3 (p2.toInt8.toInt32))), .val (.int (own_F1 (own_F3 (p2.toInt8.toInt32))))] [(.int (1 : Int32))]))
      refine own_st (fun t k => XS.ifNo X8.here hx rfl (hb hby at_59) rfl ((if0 _ _).trans (feq (by decide : ¬ ((1 : Int32) = (0 : Int32)))).1) k) ?_
      show own_Fin _ _ _ _ _ _ _ (T8.setTop (mkF m 62 #[.val (.int p1), .val (.int p2), .val (.int (1 : Int32)), .val (.int ((56304 : Int32) + (p2 &&& (511 : Int32)))), .val (.int (1 : Int32)), .val (.int (own_F3 (p2.toInt8.toInt32))), .val (.int (own_F1 (own_F3 (p2.toInt8.toInt32))))] []))
      refine own_st (fun t k => XS.iload X8.here hx rfl (hb hby at_62) rfl k) ?_
      show own_Fin _ _ _ _ _ _ _ (T8.setTop (mkF m 64 #[.val (.int p1), .val (.int p2), .val (.int (1 : Int32)), .val (.int ((56304 : Int32) + (p2 &&& (511 : Int32)))), .val (.int (1 : Int32)), .val (.int (own_F3 (p2.toInt8.toInt32))), .val (.int (own_F1 (own_F3 (p2.toInt8.toInt32))))] [(.int (1 : Int32))]))
      refine own_st (fun t k => XS.ifNo X8.here hx rfl (hb hby at_64) rfl ((if0 _ _).trans (feq (by decide : ¬ ((1 : Int32) = (0 : Int32)))).1) k) ?_
      show own_Fin _ _ _ _ _ _ _ (T8.setTop (mkF m 67 #[.val (.int p1), .val (.int p2), .val (.int (1 : Int32)), .val (.int ((56304 : Int32) + (p2 &&& (511 : Int32)))), .val (.int (1 : Int32)), .val (.int (own_F3 (p2.toInt8.toInt32))), .val (.int (own_F1 (own_F3 (p2.toInt8.toInt32))))] []))
      refine own_st (fun t k => XS.iload X8.here hx rfl (hb hby at_67) rfl k) ?_
      show own_Fin _ _ _ _ _ _ _ (T8.setTop (mkF m 69 #[.val (.int p1), .val (.int p2), .val (.int (1 : Int32)), .val (.int ((56304 : Int32) + (p2 &&& (511 : Int32)))), .val (.int (1 : Int32)), .val (.int (own_F3 (p2.toInt8.toInt32))), .val (.int (own_F1 (own_F3 (p2.toInt8.toInt32))))] [(.int (own_F1 (own_F3 (p2.toInt8.toInt32))))]))
      by_cases hc69_9 : (own_F1 (own_F3 (p2.toInt8.toInt32))) = (0 : Int32)
      · refine own_st (fun t k => XS.ifYes X8.here hx rfl (pc0 := 69) (pc' := 76) rfl (hb hby at_69) rfl ((if0 _ _).trans (teq hc69_9).1) (by decide) (by decide) k) ?_
        show own_Fin _ _ _ _ _ _ _ (T8.setTop (mkF m 76 #[.val (.int p1), .val (.int p2), .val (.int (1 : Int32)), .val (.int ((56304 : Int32) + (p2 &&& (511 : Int32)))), .val (.int (1 : Int32)), .val (.int (own_F3 (p2.toInt8.toInt32))), .val (.int (own_F1 (own_F3 (p2.toInt8.toInt32))))] []))
        refine own_st (fun t k => XS.iconst X8.here hx rfl (hb hby at_76) k) ?_
        show own_Fin _ _ _ _ _ _ _ (T8.setTop (mkF m 77 #[.val (.int p1), .val (.int p2), .val (.int (1 : Int32)), .val (.int ((56304 : Int32) + (p2 &&& (511 : Int32)))), .val (.int (1 : Int32)), .val (.int (own_F3 (p2.toInt8.toInt32))), .val (.int (own_F1 (own_F3 (p2.toInt8.toInt32))))] [(.int (0 : Int32))]))
        have hv : own_F0 p1 p2 = (0 : Int32) := by unfold own_F0; rw [if_pos hc8_3, if_pos hc34_6, if_pos hc69_9]
        exact own_retN X8 hx Bd.notSynchronized (t := .boolean) Bd.returns (by simp) (hb hby at_77) (by decide) (by decide) ⟨congrArg (fun z => some (Value.int z)) hv.symm, N8, e8⟩
      · refine own_st (fun t k => XS.ifNo X8.here hx rfl (hb hby at_69) rfl ((if0 _ _).trans (feq hc69_9).1) k) ?_
        show own_Fin _ _ _ _ _ _ _ (T8.setTop (mkF m 72 #[.val (.int p1), .val (.int p2), .val (.int (1 : Int32)), .val (.int ((56304 : Int32) + (p2 &&& (511 : Int32)))), .val (.int (1 : Int32)), .val (.int (own_F3 (p2.toInt8.toInt32))), .val (.int (own_F1 (own_F3 (p2.toInt8.toInt32))))] []))
        refine own_st (fun t k => XS.iconst X8.here hx rfl (hb hby at_72) k) ?_
        show own_Fin _ _ _ _ _ _ _ (T8.setTop (mkF m 73 #[.val (.int p1), .val (.int p2), .val (.int (1 : Int32)), .val (.int ((56304 : Int32) + (p2 &&& (511 : Int32)))), .val (.int (1 : Int32)), .val (.int (own_F3 (p2.toInt8.toInt32))), .val (.int (own_F1 (own_F3 (p2.toInt8.toInt32))))] [(.int (1 : Int32))]))
        refine own_st (fun t k => XS.goto X8.here hx rfl (pc0 := 73) (pc' := 77) rfl (hb hby at_73) (by decide) (by decide) k) ?_
        show own_Fin _ _ _ _ _ _ _ (T8.setTop (mkF m 77 #[.val (.int p1), .val (.int p2), .val (.int (1 : Int32)), .val (.int ((56304 : Int32) + (p2 &&& (511 : Int32)))), .val (.int (1 : Int32)), .val (.int (own_F3 (p2.toInt8.toInt32))), .val (.int (own_F1 (own_F3 (p2.toInt8.toInt32))))] [(.int (1 : Int32))]))
        have hv : own_F0 p1 p2 = (1 : Int32) := by unfold own_F0; rw [if_pos hc8_3, if_pos hc34_6, if_neg hc69_9]
        exact own_retN X8 hx Bd.notSynchronized (t := .boolean) Bd.returns (by simp) (hb hby at_77) (by decide) (by decide) ⟨congrArg (fun z => some (Value.int z)) hv.symm, N8, e8⟩
    · refine own_st (fun t k => XS.icmpYes X5.here hx rfl (pc0 := 34) (pc' := 41) rfl (hb hby at_34) rfl (feq hc34_6).2 (by decide) (by decide) k) ?_
      show own_Fin _ _ _ _ _ _ _ (T5.setTop (mkF m 41 #[.val (.int p1), .val (.int p2), .val (.int (1 : Int32)), .val (.int ((56304 : Int32) + (p2 &&& (511 : Int32)))), .unset, .unset, .unset] []))
      refine own_st (fun t k => XS.iconst X5.here hx rfl (hb hby at_41) k) ?_
      show own_Fin _ _ _ _ _ _ _ (T5.setTop (mkF m 42 #[.val (.int p1), .val (.int p2), .val (.int (1 : Int32)), .val (.int ((56304 : Int32) + (p2 &&& (511 : Int32)))), .unset, .unset, .unset] [(.int (0 : Int32))]))
      refine own_st (fun t k => XS.istore X5.here hx rfl (hb hby at_42) rfl (l' := #[.val (.int p1), .val (.int p2), .val (.int (1 : Int32)), .val (.int ((56304 : Int32) + (p2 &&& (511 : Int32)))), .val (.int (0 : Int32)), .unset, .unset]) rfl k) ?_
      show own_Fin _ _ _ _ _ _ _ (T5.setTop (mkF m 44 #[.val (.int p1), .val (.int p2), .val (.int (1 : Int32)), .val (.int ((56304 : Int32) + (p2 &&& (511 : Int32)))), .val (.int (0 : Int32)), .unset, .unset] []))
      refine own_st (fun t k => XS.iloadN X5.here hx rfl (hb hby at_44) rfl k) ?_
      show own_Fin _ _ _ _ _ _ _ (T5.setTop (mkF m 45 #[.val (.int p1), .val (.int p2), .val (.int (1 : Int32)), .val (.int ((56304 : Int32) + (p2 &&& (511 : Int32)))), .val (.int (0 : Int32)), .unset, .unset] [(.int p2)]))
      refine own_st (fun t k => XS.i2b X5.here hx rfl (hb hby at_45) rfl k) ?_
      show own_Fin _ _ _ _ _ _ _ (T5.setTop (mkF m 46 #[.val (.int p1), .val (.int p2), .val (.int (1 : Int32)), .val (.int ((56304 : Int32) + (p2 &&& (511 : Int32)))), .val (.int (0 : Int32)), .unset, .unset] [(.int (p2.toInt8.toInt32))]))
      obtain ⟨_, _, ⟨T10, L10, k10, n10⟩, -, X10, ⟨Lc10, hQ10, l10, y10, z10⟩, st10⟩ := Jvm.LawKit.callS X5 hx (y := (⟨"org/forwardtrace/model/UndecodedByte", "standIn", "(B)C"⟩ : MethodName)) hown (mvT hZ (hw _ (List.mem_of_getElem? (i := 10) rfl))) (mvT hZ (hw _ (List.mem_of_getElem? (i := 11) rfl))) (mvT hZ (hw _ (List.mem_of_getElem? (i := 2) rfl))) (mvT hZ (hw _ (List.mem_of_getElem? (i := 12) rfl))) (by decide) (backOf (W := 0) (rm3 l Z a0 hw [] (p2.toInt8.toInt32) h0 n0 Z0) hZ (hw _ (List.mem_of_getElem? (i := 12) rfl)) (hw _ (List.mem_of_getElem? (i := 2) rfl)) (by decide) (by decide)) (g := (mkF m 46 #[.val (.int p1), .val (.int p2), .val (.int (1 : Int32)), .val (.int ((56304 : Int32) + (p2 &&& (511 : Int32)))), .val (.int (0 : Int32)), .unset, .unset] [(.int (p2.toInt8.toInt32))])) rfl (by rw [hml]; rfl) (argsL := [(.int (p2.toInt8.toInt32))]) (rest := []) (lenOf pd_0_1 rfl) rfl (by show 2 * 0 + _ ≤ _; exact Nat.le_of_eq rfl) (hb hby at_46) (fun _ _ => ⟨rfl, e5, (by decide : 0 + 0 ≤ _), (by decide : 0 + 0 ≤ _)⟩)
      dsimp only [Pt.U, Pt.locs, Pt.cells, Pt.slots] at X10 l10 y10 z10 st10 hQ10
      subst l10 y10 z10
      obtain ⟨rfl, N10q, e10⟩ := hQ10
      have N10 := Fr.app N5 N10q
      refine own_st st10 ?_
      show own_Fin _ _ _ _ _ _ _ (T10.setTop (mkF m 49 #[.val (.int p1), .val (.int p2), .val (.int (1 : Int32)), .val (.int ((56304 : Int32) + (p2 &&& (511 : Int32)))), .val (.int (0 : Int32)), .unset, .unset] [(.int (own_F3 (p2.toInt8.toInt32)))]))
      refine own_st (fun t k => XS.istore X10.here hx rfl (hb hby at_49) rfl (l' := #[.val (.int p1), .val (.int p2), .val (.int (1 : Int32)), .val (.int ((56304 : Int32) + (p2 &&& (511 : Int32)))), .val (.int (0 : Int32)), .val (.int (own_F3 (p2.toInt8.toInt32))), .unset]) rfl k) ?_
      show own_Fin _ _ _ _ _ _ _ (T10.setTop (mkF m 51 #[.val (.int p1), .val (.int p2), .val (.int (1 : Int32)), .val (.int ((56304 : Int32) + (p2 &&& (511 : Int32)))), .val (.int (0 : Int32)), .val (.int (own_F3 (p2.toInt8.toInt32))), .unset] []))
      refine own_st (fun t k => XS.iload X10.here hx rfl (hb hby at_51) rfl k) ?_
      show own_Fin _ _ _ _ _ _ _ (T10.setTop (mkF m 53 #[.val (.int p1), .val (.int p2), .val (.int (1 : Int32)), .val (.int ((56304 : Int32) + (p2 &&& (511 : Int32)))), .val (.int (0 : Int32)), .val (.int (own_F3 (p2.toInt8.toInt32))), .unset] [(.int (own_F3 (p2.toInt8.toInt32)))]))
      obtain ⟨_, _, ⟨T11, L11, k11, n11⟩, -, X11, ⟨Lc11, hQ11, l11, y11, z11⟩, st11⟩ := Jvm.LawKit.callS X10 hx (y := (⟨"org/forwardtrace/model/UndecodedByte", "isStandIn", "(I)Z"⟩ : MethodName)) hown (mvT hZ (hw _ (List.mem_of_getElem? (i := 0) rfl))) (mvT hZ (hw _ (List.mem_of_getElem? (i := 1) rfl))) (mvT hZ (hw _ (List.mem_of_getElem? (i := 2) rfl))) (mvT hZ (hw _ (List.mem_of_getElem? (i := 3) rfl))) (by decide) (backOf (W := 0) (rm1 l Z a0 hw [] (own_F3 (p2.toInt8.toInt32)) h0 n0 Z0) hZ (hw _ (List.mem_of_getElem? (i := 3) rfl)) (hw _ (List.mem_of_getElem? (i := 2) rfl)) (by decide) (by decide)) (g := (mkF m 53 #[.val (.int p1), .val (.int p2), .val (.int (1 : Int32)), .val (.int ((56304 : Int32) + (p2 &&& (511 : Int32)))), .val (.int (0 : Int32)), .val (.int (own_F3 (p2.toInt8.toInt32))), .unset] [(.int (own_F3 (p2.toInt8.toInt32)))])) rfl (by rw [hml]; rfl) (argsL := [(.int (own_F3 (p2.toInt8.toInt32)))]) (rest := []) (lenOf pd_0_0 rfl) rfl (by show 2 * 0 + _ ≤ _; exact Nat.le_of_eq rfl) (hb hby at_53) (fun _ _ => ⟨rfl, e10, (by decide : 0 + 0 ≤ _), (by decide : 0 + 0 ≤ _)⟩)
      dsimp only [Pt.U, Pt.locs, Pt.cells, Pt.slots] at X11 l11 y11 z11 st11 hQ11
      subst l11 y11 z11
      obtain ⟨rfl, N11q, e11⟩ := hQ11
      have N11 := Fr.app N10 N11q
      refine own_st st11 ?_
      show own_Fin _ _ _ _ _ _ _ (T11.setTop (mkF m 56 #[.val (.int p1), .val (.int p2), .val (.int (1 : Int32)), .val (.int ((56304 : Int32) + (p2 &&& (511 : Int32)))), .val (.int (0 : Int32)), .val (.int (own_F3 (p2.toInt8.toInt32))), .unset] [(.int (own_F1 (own_F3 (p2.toInt8.toInt32))))]))
      refine own_st (fun t k => XS.istore X11.here hx rfl (hb hby at_56) rfl (l' := #[.val (.int p1), .val (.int p2), .val (.int (1 : Int32)), .val (.int ((56304 : Int32) + (p2 &&& (511 : Int32)))), .val (.int (0 : Int32)), .val (.int (own_F3 (p2.toInt8.toInt32))), .val (.int (own_F1 (own_F3 (p2.toInt8.toInt32))))]) rfl k) ?_
      show own_Fin _ _ _ _ _ _ _ (T11.setTop (mkF m 58 #[.val (.int p1), .val (.int p2), .val (.int (1 : Int32)), .val (.int ((56304 : Int32) + (p2 &&& (511 : Int32)))), .val (.int (0 : Int32)), .val (.int (own_F3 (p2.toInt8.toInt32))), .val (.int (own_F1 (own_F3 (p2.toInt8.toInt32))))] []))
      refine own_st (fun t k => XS.iloadN X11.here hx rfl (hb hby at_58) rfl k) ?_
      show own_Fin _ _ _ _ _ _ _ (T11.setTop (mkF m 59 #[.val (.int p1), .val (.int p2), .val (.int (1 : Int32)), .val (.int ((56304 : Int32) + (p2 &&& (511 : Int32)))), .val (.int (0 : Int32)), .val (.int (own_F3 (p2.toInt8.toInt32))), .val (.int (own_F1 (own_F3 (p2.toInt8.toInt32))))] [(.int (1 : Int32))]))
      refine own_st (fun t k => XS.ifNo X11.here hx rfl (hb hby at_59) rfl ((if0 _ _).trans (feq (by decide : ¬ ((1 : Int32) = (0 : Int32)))).1) k) ?_
      show own_Fin _ _ _ _ _ _ _ (T11.setTop (mkF m 62 #[.val (.int p1), .val (.int p2), .val (.int (1 : Int32)), .val (.int ((56304 : Int32) + (p2 &&& (511 : Int32)))), .val (.int (0 : Int32)), .val (.int (own_F3 (p2.toInt8.toInt32))), .val (.int (own_F1 (own_F3 (p2.toInt8.toInt32))))] []))
      refine own_st (fun t k => XS.iload X11.here hx rfl (hb hby at_62) rfl k) ?_
      show own_Fin _ _ _ _ _ _ _ (T11.setTop (mkF m 64 #[.val (.int p1), .val (.int p2), .val (.int (1 : Int32)), .val (.int ((56304 : Int32) + (p2 &&& (511 : Int32)))), .val (.int (0 : Int32)), .val (.int (own_F3 (p2.toInt8.toInt32))), .val (.int (own_F1 (own_F3 (p2.toInt8.toInt32))))] [(.int (0 : Int32))]))
      refine own_st (fun t k => XS.ifYes X11.here hx rfl (pc0 := 64) (pc' := 76) rfl (hb hby at_64) rfl ((if0 _ _).trans (teq (by decide : (0 : Int32) = (0 : Int32))).1) (by decide) (by decide) k) ?_
      show own_Fin _ _ _ _ _ _ _ (T11.setTop (mkF m 76 #[.val (.int p1), .val (.int p2), .val (.int (1 : Int32)), .val (.int ((56304 : Int32) + (p2 &&& (511 : Int32)))), .val (.int (0 : Int32)), .val (.int (own_F3 (p2.toInt8.toInt32))), .val (.int (own_F1 (own_F3 (p2.toInt8.toInt32))))] []))
      refine own_st (fun t k => XS.iconst X11.here hx rfl (hb hby at_76) k) ?_
      show own_Fin _ _ _ _ _ _ _ (T11.setTop (mkF m 77 #[.val (.int p1), .val (.int p2), .val (.int (1 : Int32)), .val (.int ((56304 : Int32) + (p2 &&& (511 : Int32)))), .val (.int (0 : Int32)), .val (.int (own_F3 (p2.toInt8.toInt32))), .val (.int (own_F1 (own_F3 (p2.toInt8.toInt32))))] [(.int (0 : Int32))]))
      have hv : own_F0 p1 p2 = (0 : Int32) := by unfold own_F0; rw [if_pos hc8_3, if_neg hc34_6]
      exact own_retN X11 hx Bd.notSynchronized (t := .boolean) Bd.returns (by simp) (hb hby at_77) (by decide) (by decide) ⟨congrArg (fun z => some (Value.int z)) hv.symm, N11, e11⟩
  · refine own_st (fun t k => XS.icmpYes X2.here hx rfl (pc0 := 8) (pc' := 15) rfl (hb hby at_8) rfl (feq hc8_3).2 (by decide) (by decide) k) ?_
    show own_Fin _ _ _ _ _ _ _ (T2.setTop (mkF m 15 #[.val (.int p1), .val (.int p2), .unset, .unset, .unset, .unset, .unset] []))
    refine own_st (fun t k => XS.iconst X2.here hx rfl (hb hby at_15) k) ?_
    show own_Fin _ _ _ _ _ _ _ (T2.setTop (mkF m 16 #[.val (.int p1), .val (.int p2), .unset, .unset, .unset, .unset, .unset] [(.int (0 : Int32))]))
    refine own_st (fun t k => XS.istoreN X2.here hx rfl (hb hby at_16) rfl (l' := #[.val (.int p1), .val (.int p2), .val (.int (0 : Int32)), .unset, .unset, .unset, .unset]) rfl k) ?_
    show own_Fin _ _ _ _ _ _ _ (T2.setTop (mkF m 17 #[.val (.int p1), .val (.int p2), .val (.int (0 : Int32)), .unset, .unset, .unset, .unset] []))
    refine own_st (X2.ldcInt hx hown (mvT hZ (hw _ (List.mem_of_getElem? (i := 9) rfl))) (g := (mkF m 17 #[.val (.int p1), .val (.int p2), .val (.int (0 : Int32)), .unset, .unset, .unset, .unset] [])) rfl (hb hby at_17)) ?_
    show own_Fin _ _ _ _ _ _ _ (T2.setTop (mkF m 19 #[.val (.int p1), .val (.int p2), .val (.int (0 : Int32)), .unset, .unset, .unset, .unset] [(.int (56304 : Int32))]))
    refine own_st (fun t k => XS.iloadN X2.here hx rfl (hb hby at_19) rfl k) ?_
    show own_Fin _ _ _ _ _ _ _ (T2.setTop (mkF m 20 #[.val (.int p1), .val (.int p2), .val (.int (0 : Int32)), .unset, .unset, .unset, .unset] [(.int p2), (.int (56304 : Int32))]))
    refine own_st (fun t k => XS.sipush X2.here hx rfl (hb hby at_20) k) ?_
    show own_Fin _ _ _ _ _ _ _ (T2.setTop (mkF m 23 #[.val (.int p1), .val (.int p2), .val (.int (0 : Int32)), .unset, .unset, .unset, .unset] [(.int (511 : Int32)), (.int p2), (.int (56304 : Int32))]))
    refine own_st (fun t k => XS.iand X2.here hx rfl (hb hby at_23) rfl k) ?_
    show own_Fin _ _ _ _ _ _ _ (T2.setTop (mkF m 24 #[.val (.int p1), .val (.int p2), .val (.int (0 : Int32)), .unset, .unset, .unset, .unset] [(.int (p2 &&& (511 : Int32))), (.int (56304 : Int32))]))
    refine own_st (fun t k => XS.iadd X2.here hx rfl (hb hby at_24) rfl k) ?_
    show own_Fin _ _ _ _ _ _ _ (T2.setTop (mkF m 25 #[.val (.int p1), .val (.int p2), .val (.int (0 : Int32)), .unset, .unset, .unset, .unset] [(.int ((56304 : Int32) + (p2 &&& (511 : Int32))))]))
    refine own_st (fun t k => XS.istoreN X2.here hx rfl (hb hby at_25) rfl (l' := #[.val (.int p1), .val (.int p2), .val (.int (0 : Int32)), .val (.int ((56304 : Int32) + (p2 &&& (511 : Int32)))), .unset, .unset, .unset]) rfl k) ?_
    show own_Fin _ _ _ _ _ _ _ (T2.setTop (mkF m 26 #[.val (.int p1), .val (.int p2), .val (.int (0 : Int32)), .val (.int ((56304 : Int32) + (p2 &&& (511 : Int32)))), .unset, .unset, .unset] []))
    refine own_st (fun t k => XS.iloadN X2.here hx rfl (hb hby at_26) rfl k) ?_
    show own_Fin _ _ _ _ _ _ _ (T2.setTop (mkF m 27 #[.val (.int p1), .val (.int p2), .val (.int (0 : Int32)), .val (.int ((56304 : Int32) + (p2 &&& (511 : Int32)))), .unset, .unset, .unset] [(.int ((56304 : Int32) + (p2 &&& (511 : Int32))))]))
    obtain ⟨_, _, ⟨T12, L12, k12, n12⟩, -, X12, ⟨Lc12, hQ12, l12, y12, z12⟩, st12⟩ := Jvm.LawKit.callS X2 hx (y := (⟨"org/forwardtrace/model/UndecodedByte", "isStandIn", "(I)Z"⟩ : MethodName)) hown (mvT hZ (hw _ (List.mem_of_getElem? (i := 0) rfl))) (mvT hZ (hw _ (List.mem_of_getElem? (i := 1) rfl))) (mvT hZ (hw _ (List.mem_of_getElem? (i := 2) rfl))) (mvT hZ (hw _ (List.mem_of_getElem? (i := 3) rfl))) (by decide) (backOf (W := 0) (rm1 l Z a0 hw [] ((56304 : Int32) + (p2 &&& (511 : Int32))) h0 n0 Z0) hZ (hw _ (List.mem_of_getElem? (i := 3) rfl)) (hw _ (List.mem_of_getElem? (i := 2) rfl)) (by decide) (by decide)) (g := (mkF m 27 #[.val (.int p1), .val (.int p2), .val (.int (0 : Int32)), .val (.int ((56304 : Int32) + (p2 &&& (511 : Int32)))), .unset, .unset, .unset] [(.int ((56304 : Int32) + (p2 &&& (511 : Int32))))])) rfl (by rw [hml]; rfl) (argsL := [(.int ((56304 : Int32) + (p2 &&& (511 : Int32))))]) (rest := []) (lenOf pd_0_0 rfl) rfl (by show 2 * 0 + _ ≤ _; exact Nat.le_of_eq rfl) (hb hby at_27) (fun _ _ => ⟨rfl, e2, (by decide : 0 + 0 ≤ _), (by decide : 0 + 0 ≤ _)⟩)
    dsimp only [Pt.U, Pt.locs, Pt.cells, Pt.slots] at X12 l12 y12 z12 st12 hQ12
    subst l12 y12 z12
    obtain ⟨rfl, N12q, e12⟩ := hQ12
    have N12 := Fr.app N2 N12q
    refine own_st st12 ?_
    show own_Fin _ _ _ _ _ _ _ (T12.setTop (mkF m 30 #[.val (.int p1), .val (.int p2), .val (.int (0 : Int32)), .val (.int ((56304 : Int32) + (p2 &&& (511 : Int32)))), .unset, .unset, .unset] [(.int (own_F1 ((56304 : Int32) + (p2 &&& (511 : Int32)))))]))
    refine own_st (fun t k => XS.iloadN X12.here hx rfl (hb hby at_30) rfl k) ?_
    show own_Fin _ _ _ _ _ _ _ (T12.setTop (mkF m 31 #[.val (.int p1), .val (.int p2), .val (.int (0 : Int32)), .val (.int ((56304 : Int32) + (p2 &&& (511 : Int32)))), .unset, .unset, .unset] [(.int ((56304 : Int32) + (p2 &&& (511 : Int32)))), (.int (own_F1 ((56304 : Int32) + (p2 &&& (511 : Int32)))))]))
    obtain ⟨_, _, ⟨T13, L13, k13, n13⟩, -, X13, ⟨Lc13, hQ13, l13, y13, z13⟩, st13⟩ := Jvm.LawKit.callS X12 hx (y := (⟨"org/forwardtrace/model/UndecodedByteIsStandInPinLaw", "inBlock", "(I)Z"⟩ : MethodName)) hown (mvT hZ (hw _ (List.mem_of_getElem? (i := 5) rfl))) (mvT hZ (hw _ (List.mem_of_getElem? (i := 6) rfl))) (mvT hZ (hw _ (List.mem_of_getElem? (i := 7) rfl))) (mvT hZ (hw _ (List.mem_of_getElem? (i := 8) rfl))) (by decide) (backOf (W := 1) (rm2 l Z a0 hw [] ((56304 : Int32) + (p2 &&& (511 : Int32))) h0 n0 Z0) hZ (hw _ (List.mem_of_getElem? (i := 8) rfl)) (hw _ (List.mem_of_getElem? (i := 7) rfl)) (by decide) (by decide)) (g := (mkF m 31 #[.val (.int p1), .val (.int p2), .val (.int (0 : Int32)), .val (.int ((56304 : Int32) + (p2 &&& (511 : Int32)))), .unset, .unset, .unset] [(.int ((56304 : Int32) + (p2 &&& (511 : Int32)))), (.int (own_F1 ((56304 : Int32) + (p2 &&& (511 : Int32)))))])) rfl (by rw [hml]; rfl) (argsL := [(.int ((56304 : Int32) + (p2 &&& (511 : Int32))))]) (rest := [(.int (own_F1 ((56304 : Int32) + (p2 &&& (511 : Int32)))))]) (lenOf pd_0_0 rfl) rfl (by show 2 * 0 + _ ≤ _; exact Nat.le_of_eq rfl) (hb hby at_31) (fun _ _ => ⟨rfl, e12, (by decide : 0 + 0 ≤ _), (by decide : 0 + 0 ≤ _)⟩)
    dsimp only [Pt.U, Pt.locs, Pt.cells, Pt.slots] at X13 l13 y13 z13 st13 hQ13
    subst l13 y13 z13
    obtain ⟨rfl, N13q, e13⟩ := hQ13
    have N13 := Fr.app N12 N13q
    refine own_st st13 ?_
    show own_Fin _ _ _ _ _ _ _ (T13.setTop (mkF m 34 #[.val (.int p1), .val (.int p2), .val (.int (0 : Int32)), .val (.int ((56304 : Int32) + (p2 &&& (511 : Int32)))), .unset, .unset, .unset] [(.int (own_F2 ((56304 : Int32) + (p2 &&& (511 : Int32))))), (.int (own_F1 ((56304 : Int32) + (p2 &&& (511 : Int32)))))]))
    by_cases hc34_14 : (own_F1 ((56304 : Int32) + (p2 &&& (511 : Int32)))) = (own_F2 ((56304 : Int32) + (p2 &&& (511 : Int32))))
    · refine own_st (fun t k => XS.icmpNo X13.here hx rfl (hb hby at_34) rfl (teq hc34_14).2 k) ?_
      show own_Fin _ _ _ _ _ _ _ (T13.setTop (mkF m 37 #[.val (.int p1), .val (.int p2), .val (.int (0 : Int32)), .val (.int ((56304 : Int32) + (p2 &&& (511 : Int32)))), .unset, .unset, .unset] []))
      refine own_st (fun t k => XS.iconst X13.here hx rfl (hb hby at_37) k) ?_
      show own_Fin _ _ _ _ _ _ _ (T13.setTop (mkF m 38 #[.val (.int p1), .val (.int p2), .val (.int (0 : Int32)), .val (.int ((56304 : Int32) + (p2 &&& (511 : Int32)))), .unset, .unset, .unset] [(.int (1 : Int32))]))
      refine own_st (fun t k => XS.goto X13.here hx rfl (pc0 := 38) (pc' := 42) rfl (hb hby at_38) (by decide) (by decide) k) ?_
      show own_Fin _ _ _ _ _ _ _ (T13.setTop (mkF m 42 #[.val (.int p1), .val (.int p2), .val (.int (0 : Int32)), .val (.int ((56304 : Int32) + (p2 &&& (511 : Int32)))), .unset, .unset, .unset] [(.int (1 : Int32))]))
      refine own_st (fun t k => XS.istore X13.here hx rfl (hb hby at_42) rfl (l' := #[.val (.int p1), .val (.int p2), .val (.int (0 : Int32)), .val (.int ((56304 : Int32) + (p2 &&& (511 : Int32)))), .val (.int (1 : Int32)), .unset, .unset]) rfl k) ?_
      show own_Fin _ _ _ _ _ _ _ (T13.setTop (mkF m 44 #[.val (.int p1), .val (.int p2), .val (.int (0 : Int32)), .val (.int ((56304 : Int32) + (p2 &&& (511 : Int32)))), .val (.int (1 : Int32)), .unset, .unset] []))
      refine own_st (fun t k => XS.iloadN X13.here hx rfl (hb hby at_44) rfl k) ?_
      show own_Fin _ _ _ _ _ _ _ (T13.setTop (mkF m 45 #[.val (.int p1), .val (.int p2), .val (.int (0 : Int32)), .val (.int ((56304 : Int32) + (p2 &&& (511 : Int32)))), .val (.int (1 : Int32)), .unset, .unset] [(.int p2)]))
      refine own_st (fun t k => XS.i2b X13.here hx rfl (hb hby at_45) rfl k) ?_
      show own_Fin _ _ _ _ _ _ _ (T13.setTop (mkF m 46 #[.val (.int p1), .val (.int p2), .val (.int (0 : Int32)), .val (.int ((56304 : Int32) + (p2 &&& (511 : Int32)))), .val (.int (1 : Int32)), .unset, .unset] [(.int (p2.toInt8.toInt32))]))
      obtain ⟨_, _, ⟨T15, L15, k15, n15⟩, -, X15, ⟨Lc15, hQ15, l15, y15, z15⟩, st15⟩ := Jvm.LawKit.callS X13 hx (y := (⟨"org/forwardtrace/model/UndecodedByte", "standIn", "(B)C"⟩ : MethodName)) hown (mvT hZ (hw _ (List.mem_of_getElem? (i := 10) rfl))) (mvT hZ (hw _ (List.mem_of_getElem? (i := 11) rfl))) (mvT hZ (hw _ (List.mem_of_getElem? (i := 2) rfl))) (mvT hZ (hw _ (List.mem_of_getElem? (i := 12) rfl))) (by decide) (backOf (W := 0) (rm3 l Z a0 hw [] (p2.toInt8.toInt32) h0 n0 Z0) hZ (hw _ (List.mem_of_getElem? (i := 12) rfl)) (hw _ (List.mem_of_getElem? (i := 2) rfl)) (by decide) (by decide)) (g := (mkF m 46 #[.val (.int p1), .val (.int p2), .val (.int (0 : Int32)), .val (.int ((56304 : Int32) + (p2 &&& (511 : Int32)))), .val (.int (1 : Int32)), .unset, .unset] [(.int (p2.toInt8.toInt32))])) rfl (by rw [hml]; rfl) (argsL := [(.int (p2.toInt8.toInt32))]) (rest := []) (lenOf pd_0_1 rfl) rfl (by show 2 * 0 + _ ≤ _; exact Nat.le_of_eq rfl) (hb hby at_46) (fun _ _ => ⟨rfl, e13, (by decide : 0 + 0 ≤ _), (by decide : 0 + 0 ≤ _)⟩)
      dsimp only [Pt.U, Pt.locs, Pt.cells, Pt.slots] at X15 l15 y15 z15 st15 hQ15
      subst l15 y15 z15
      obtain ⟨rfl, N15q, e15⟩ := hQ15
      have N15 := Fr.app N13 N15q
      refine own_st st15 ?_
      show own_Fin _ _ _ _ _ _ _ (T15.setTop (mkF m 49 #[.val (.int p1), .val (.int p2), .val (.int (0 : Int32)), .val (.int ((56304 : Int32) + (p2 &&& (511 : Int32)))), .val (.int (1 : Int32)), .unset, .unset] [(.int (own_F3 (p2.toInt8.toInt32)))]))
      refine own_st (fun t k => XS.istore X15.here hx rfl (hb hby at_49) rfl (l' := #[.val (.int p1), .val (.int p2), .val (.int (0 : Int32)), .val (.int ((56304 : Int32) + (p2 &&& (511 : Int32)))), .val (.int (1 : Int32)), .val (.int (own_F3 (p2.toInt8.toInt32))), .unset]) rfl k) ?_
      show own_Fin _ _ _ _ _ _ _ (T15.setTop (mkF m 51 #[.val (.int p1), .val (.int p2), .val (.int (0 : Int32)), .val (.int ((56304 : Int32) + (p2 &&& (511 : Int32)))), .val (.int (1 : Int32)), .val (.int (own_F3 (p2.toInt8.toInt32))), .unset] []))
      refine own_st (fun t k => XS.iload X15.here hx rfl (hb hby at_51) rfl k) ?_
      show own_Fin _ _ _ _ _ _ _ (T15.setTop (mkF m 53 #[.val (.int p1), .val (.int p2), .val (.int (0 : Int32)), .val (.int ((56304 : Int32) + (p2 &&& (511 : Int32)))), .val (.int (1 : Int32)), .val (.int (own_F3 (p2.toInt8.toInt32))), .unset] [(.int (own_F3 (p2.toInt8.toInt32)))]))
      obtain ⟨_, _, ⟨T16, L16, k16, n16⟩, -, X16, ⟨Lc16, hQ16, l16, y16, z16⟩, st16⟩ := Jvm.LawKit.callS X15 hx (y := (⟨"org/forwardtrace/model/UndecodedByte", "isStandIn", "(I)Z"⟩ : MethodName)) hown (mvT hZ (hw _ (List.mem_of_getElem? (i := 0) rfl))) (mvT hZ (hw _ (List.mem_of_getElem? (i := 1) rfl))) (mvT hZ (hw _ (List.mem_of_getElem? (i := 2) rfl))) (mvT hZ (hw _ (List.mem_of_getElem? (i := 3) rfl))) (by decide) (backOf (W := 0) (rm1 l Z a0 hw [] (own_F3 (p2.toInt8.toInt32)) h0 n0 Z0) hZ (hw _ (List.mem_of_getElem? (i := 3) rfl)) (hw _ (List.mem_of_getElem? (i := 2) rfl)) (by decide) (by decide)) (g := (mkF m 53 #[.val (.int p1), .val (.int p2), .val (.int (0 : Int32)), .val (.int ((56304 : Int32) + (p2 &&& (511 : Int32)))), .val (.int (1 : Int32)), .val (.int (own_F3 (p2.toInt8.toInt32))), .unset] [(.int (own_F3 (p2.toInt8.toInt32)))])) rfl (by rw [hml]; rfl) (argsL := [(.int (own_F3 (p2.toInt8.toInt32)))]) (rest := []) (lenOf pd_0_0 rfl) rfl (by show 2 * 0 + _ ≤ _; exact Nat.le_of_eq rfl) (hb hby at_53) (fun _ _ => ⟨rfl, e15, (by decide : 0 + 0 ≤ _), (by decide : 0 + 0 ≤ _)⟩)
      dsimp only [Pt.U, Pt.locs, Pt.cells, Pt.slots] at X16 l16 y16 z16 st16 hQ16
      subst l16 y16 z16
      obtain ⟨rfl, N16q, e16⟩ := hQ16
      have N16 := Fr.app N15 N16q
      refine own_st st16 ?_
      show own_Fin _ _ _ _ _ _ _ (T16.setTop (mkF m 56 #[.val (.int p1), .val (.int p2), .val (.int (0 : Int32)), .val (.int ((56304 : Int32) + (p2 &&& (511 : Int32)))), .val (.int (1 : Int32)), .val (.int (own_F3 (p2.toInt8.toInt32))), .unset] [(.int (own_F1 (own_F3 (p2.toInt8.toInt32))))]))
      refine own_st (fun t k => XS.istore X16.here hx rfl (hb hby at_56) rfl (l' := #[.val (.int p1), .val (.int p2), .val (.int (0 : Int32)), .val (.int ((56304 : Int32) + (p2 &&& (511 : Int32)))), .val (.int (1 : Int32)), .val (.int (own_F3 (p2.toInt8.toInt32))), .val (.int (own_F1 (own_F3 (p2.toInt8.toInt32))))]) rfl k) ?_
      show own_Fin _ _ _ _ _ _ _ (T16.setTop (mkF m 58 #[.val (.int p1), .val (.int p2), .val (.int (0 : Int32)), .val (.int ((56304 : Int32) + (p2 &&& (511 : Int32)))), .val (.int (1 : Int32)), .val (.int (own_F3 (p2.toInt8.toInt32))), .val (.int (own_F1 (own_F3 (p2.toInt8.toInt32))))] []))
      refine own_st (fun t k => XS.iloadN X16.here hx rfl (hb hby at_58) rfl k) ?_
      show own_Fin _ _ _ _ _ _ _ (T16.setTop (mkF m 59 #[.val (.int p1), .val (.int p2), .val (.int (0 : Int32)), .val (.int ((56304 : Int32) + (p2 &&& (511 : Int32)))), .val (.int (1 : Int32)), .val (.int (own_F3 (p2.toInt8.toInt32))), .val (.int (own_F1 (own_F3 (p2.toInt8.toInt32))))] [(.int (0 : Int32))]))
      refine own_st (fun t k => XS.ifYes X16.here hx rfl (pc0 := 59) (pc' := 76) rfl (hb hby at_59) rfl ((if0 _ _).trans (teq (by decide : (0 : Int32) = (0 : Int32))).1) (by decide) (by decide) k) ?_
      show own_Fin _ _ _ _ _ _ _ (T16.setTop (mkF m 76 #[.val (.int p1), .val (.int p2), .val (.int (0 : Int32)), .val (.int ((56304 : Int32) + (p2 &&& (511 : Int32)))), .val (.int (1 : Int32)), .val (.int (own_F3 (p2.toInt8.toInt32))), .val (.int (own_F1 (own_F3 (p2.toInt8.toInt32))))] []))
      refine own_st (fun t k => XS.iconst X16.here hx rfl (hb hby at_76) k) ?_
      show own_Fin _ _ _ _ _ _ _ (T16.setTop (mkF m 77 #[.val (.int p1), .val (.int p2), .val (.int (0 : Int32)), .val (.int ((56304 : Int32) + (p2 &&& (511 : Int32)))), .val (.int (1 : Int32)), .val (.int (own_F3 (p2.toInt8.toInt32))), .val (.int (own_F1 (own_F3 (p2.toInt8.toInt32))))] [(.int (0 : Int32))]))
      have hv : own_F0 p1 p2 = (0 : Int32) := by unfold own_F0; rw [if_neg hc8_3, if_pos hc34_14]
      exact own_retN X16 hx Bd.notSynchronized (t := .boolean) Bd.returns (by simp) (hb hby at_77) (by decide) (by decide) ⟨congrArg (fun z => some (Value.int z)) hv.symm, N16, e16⟩
    · refine own_st (fun t k => XS.icmpYes X13.here hx rfl (pc0 := 34) (pc' := 41) rfl (hb hby at_34) rfl (feq hc34_14).2 (by decide) (by decide) k) ?_
      show own_Fin _ _ _ _ _ _ _ (T13.setTop (mkF m 41 #[.val (.int p1), .val (.int p2), .val (.int (0 : Int32)), .val (.int ((56304 : Int32) + (p2 &&& (511 : Int32)))), .unset, .unset, .unset] []))
      refine own_st (fun t k => XS.iconst X13.here hx rfl (hb hby at_41) k) ?_
      show own_Fin _ _ _ _ _ _ _ (T13.setTop (mkF m 42 #[.val (.int p1), .val (.int p2), .val (.int (0 : Int32)), .val (.int ((56304 : Int32) + (p2 &&& (511 : Int32)))), .unset, .unset, .unset] [(.int (0 : Int32))]))
      refine own_st (fun t k => XS.istore X13.here hx rfl (hb hby at_42) rfl (l' := #[.val (.int p1), .val (.int p2), .val (.int (0 : Int32)), .val (.int ((56304 : Int32) + (p2 &&& (511 : Int32)))), .val (.int (0 : Int32)), .unset, .unset]) rfl k) ?_
      show own_Fin _ _ _ _ _ _ _ (T13.setTop (mkF m 44 #[.val (.int p1), .val (.int p2), .val (.int (0 : Int32)), .val (.int ((56304 : Int32) + (p2 &&& (511 : Int32)))), .val (.int (0 : Int32)), .unset, .unset] []))
      refine own_st (fun t k => XS.iloadN X13.here hx rfl (hb hby at_44) rfl k) ?_
      show own_Fin _ _ _ _ _ _ _ (T13.setTop (mkF m 45 #[.val (.int p1), .val (.int p2), .val (.int (0 : Int32)), .val (.int ((56304 : Int32) + (p2 &&& (511 : Int32)))), .val (.int (0 : Int32)), .unset, .unset] [(.int p2)]))
      refine own_st (fun t k => XS.i2b X13.here hx rfl (hb hby at_45) rfl k) ?_
      show own_Fin _ _ _ _ _ _ _ (T13.setTop (mkF m 46 #[.val (.int p1), .val (.int p2), .val (.int (0 : Int32)), .val (.int ((56304 : Int32) + (p2 &&& (511 : Int32)))), .val (.int (0 : Int32)), .unset, .unset] [(.int (p2.toInt8.toInt32))]))
      obtain ⟨_, _, ⟨T17, L17, k17, n17⟩, -, X17, ⟨Lc17, hQ17, l17, y17, z17⟩, st17⟩ := Jvm.LawKit.callS X13 hx (y := (⟨"org/forwardtrace/model/UndecodedByte", "standIn", "(B)C"⟩ : MethodName)) hown (mvT hZ (hw _ (List.mem_of_getElem? (i := 10) rfl))) (mvT hZ (hw _ (List.mem_of_getElem? (i := 11) rfl))) (mvT hZ (hw _ (List.mem_of_getElem? (i := 2) rfl))) (mvT hZ (hw _ (List.mem_of_getElem? (i := 12) rfl))) (by decide) (backOf (W := 0) (rm3 l Z a0 hw [] (p2.toInt8.toInt32) h0 n0 Z0) hZ (hw _ (List.mem_of_getElem? (i := 12) rfl)) (hw _ (List.mem_of_getElem? (i := 2) rfl)) (by decide) (by decide)) (g := (mkF m 46 #[.val (.int p1), .val (.int p2), .val (.int (0 : Int32)), .val (.int ((56304 : Int32) + (p2 &&& (511 : Int32)))), .val (.int (0 : Int32)), .unset, .unset] [(.int (p2.toInt8.toInt32))])) rfl (by rw [hml]; rfl) (argsL := [(.int (p2.toInt8.toInt32))]) (rest := []) (lenOf pd_0_1 rfl) rfl (by show 2 * 0 + _ ≤ _; exact Nat.le_of_eq rfl) (hb hby at_46) (fun _ _ => ⟨rfl, e13, (by decide : 0 + 0 ≤ _), (by decide : 0 + 0 ≤ _)⟩)
      dsimp only [Pt.U, Pt.locs, Pt.cells, Pt.slots] at X17 l17 y17 z17 st17 hQ17
      subst l17 y17 z17
      obtain ⟨rfl, N17q, e17⟩ := hQ17
      have N17 := Fr.app N13 N17q
      refine own_st st17 ?_
      show own_Fin _ _ _ _ _ _ _ (T17.setTop (mkF m 49 #[.val (.int p1), .val (.int p2), .val (.int (0 : Int32)), .val (.int ((56304 : Int32) + (p2 &&& (511 : Int32)))), .val (.int (0 : Int32)), .unset, .unset] [(.int (own_F3 (p2.toInt8.toInt32)))]))
      refine own_st (fun t k => XS.istore X17.here hx rfl (hb hby at_49) rfl (l' := #[.val (.int p1), .val (.int p2), .val (.int (0 : Int32)), .val (.int ((56304 : Int32) + (p2 &&& (511 : Int32)))), .val (.int (0 : Int32)), .val (.int (own_F3 (p2.toInt8.toInt32))), .unset]) rfl k) ?_
      show own_Fin _ _ _ _ _ _ _ (T17.setTop (mkF m 51 #[.val (.int p1), .val (.int p2), .val (.int (0 : Int32)), .val (.int ((56304 : Int32) + (p2 &&& (511 : Int32)))), .val (.int (0 : Int32)), .val (.int (own_F3 (p2.toInt8.toInt32))), .unset] []))
      refine own_st (fun t k => XS.iload X17.here hx rfl (hb hby at_51) rfl k) ?_
      show own_Fin _ _ _ _ _ _ _ (T17.setTop (mkF m 53 #[.val (.int p1), .val (.int p2), .val (.int (0 : Int32)), .val (.int ((56304 : Int32) + (p2 &&& (511 : Int32)))), .val (.int (0 : Int32)), .val (.int (own_F3 (p2.toInt8.toInt32))), .unset] [(.int (own_F3 (p2.toInt8.toInt32)))]))
      obtain ⟨_, _, ⟨T18, L18, k18, n18⟩, -, X18, ⟨Lc18, hQ18, l18, y18, z18⟩, st18⟩ := Jvm.LawKit.callS X17 hx (y := (⟨"org/forwardtrace/model/UndecodedByte", "isStandIn", "(I)Z"⟩ : MethodName)) hown (mvT hZ (hw _ (List.mem_of_getElem? (i := 0) rfl))) (mvT hZ (hw _ (List.mem_of_getElem? (i := 1) rfl))) (mvT hZ (hw _ (List.mem_of_getElem? (i := 2) rfl))) (mvT hZ (hw _ (List.mem_of_getElem? (i := 3) rfl))) (by decide) (backOf (W := 0) (rm1 l Z a0 hw [] (own_F3 (p2.toInt8.toInt32)) h0 n0 Z0) hZ (hw _ (List.mem_of_getElem? (i := 3) rfl)) (hw _ (List.mem_of_getElem? (i := 2) rfl)) (by decide) (by decide)) (g := (mkF m 53 #[.val (.int p1), .val (.int p2), .val (.int (0 : Int32)), .val (.int ((56304 : Int32) + (p2 &&& (511 : Int32)))), .val (.int (0 : Int32)), .val (.int (own_F3 (p2.toInt8.toInt32))), .unset] [(.int (own_F3 (p2.toInt8.toInt32)))])) rfl (by rw [hml]; rfl) (argsL := [(.int (own_F3 (p2.toInt8.toInt32)))]) (rest := []) (lenOf pd_0_0 rfl) rfl (by show 2 * 0 + _ ≤ _; exact Nat.le_of_eq rfl) (hb hby at_53) (fun _ _ => ⟨rfl, e17, (by decide : 0 + 0 ≤ _), (by decide : 0 + 0 ≤ _)⟩)
      dsimp only [Pt.U, Pt.locs, Pt.cells, Pt.slots] at X18 l18 y18 z18 st18 hQ18
      subst l18 y18 z18
      obtain ⟨rfl, N18q, e18⟩ := hQ18
      have N18 := Fr.app N17 N18q
      refine own_st st18 ?_
      show own_Fin _ _ _ _ _ _ _ (T18.setTop (mkF m 56 #[.val (.int p1), .val (.int p2), .val (.int (0 : Int32)), .val (.int ((56304 : Int32) + (p2 &&& (511 : Int32)))), .val (.int (0 : Int32)), .val (.int (own_F3 (p2.toInt8.toInt32))), .unset] [(.int (own_F1 (own_F3 (p2.toInt8.toInt32))))]))
      refine own_st (fun t k => XS.istore X18.here hx rfl (hb hby at_56) rfl (l' := #[.val (.int p1), .val (.int p2), .val (.int (0 : Int32)), .val (.int ((56304 : Int32) + (p2 &&& (511 : Int32)))), .val (.int (0 : Int32)), .val (.int (own_F3 (p2.toInt8.toInt32))), .val (.int (own_F1 (own_F3 (p2.toInt8.toInt32))))]) rfl k) ?_
      show own_Fin _ _ _ _ _ _ _ (T18.setTop (mkF m 58 #[.val (.int p1), .val (.int p2), .val (.int (0 : Int32)), .val (.int ((56304 : Int32) + (p2 &&& (511 : Int32)))), .val (.int (0 : Int32)), .val (.int (own_F3 (p2.toInt8.toInt32))), .val (.int (own_F1 (own_F3 (p2.toInt8.toInt32))))] []))
      refine own_st (fun t k => XS.iloadN X18.here hx rfl (hb hby at_58) rfl k) ?_
      show own_Fin _ _ _ _ _ _ _ (T18.setTop (mkF m 59 #[.val (.int p1), .val (.int p2), .val (.int (0 : Int32)), .val (.int ((56304 : Int32) + (p2 &&& (511 : Int32)))), .val (.int (0 : Int32)), .val (.int (own_F3 (p2.toInt8.toInt32))), .val (.int (own_F1 (own_F3 (p2.toInt8.toInt32))))] [(.int (0 : Int32))]))
      refine own_st (fun t k => XS.ifYes X18.here hx rfl (pc0 := 59) (pc' := 76) rfl (hb hby at_59) rfl ((if0 _ _).trans (teq (by decide : (0 : Int32) = (0 : Int32))).1) (by decide) (by decide) k) ?_
      show own_Fin _ _ _ _ _ _ _ (T18.setTop (mkF m 76 #[.val (.int p1), .val (.int p2), .val (.int (0 : Int32)), .val (.int ((56304 : Int32) + (p2 &&& (511 : Int32)))), .val (.int (0 : Int32)), .val (.int (own_F3 (p2.toInt8.toInt32))), .val (.int (own_F1 (own_F3 (p2.toInt8.toInt32))))] []))
      refine own_st (fun t k => XS.iconst X18.here hx rfl (hb hby at_76) k) ?_
      show own_Fin _ _ _ _ _ _ _ (T18.setTop (mkF m 77 #[.val (.int p1), .val (.int p2), .val (.int (0 : Int32)), .val (.int ((56304 : Int32) + (p2 &&& (511 : Int32)))), .val (.int (0 : Int32)), .val (.int (own_F3 (p2.toInt8.toInt32))), .val (.int (own_F1 (own_F3 (p2.toInt8.toInt32))))] [(.int (0 : Int32))]))
      have hv : own_F0 p1 p2 = (0 : Int32) := by unfold own_F0; rw [if_neg hc8_3, if_neg hc34_14]
      exact own_retN X18 hx Bd.notSynchronized (t := .boolean) Bd.returns (by simp) (hb hby at_77) (by decide) (by decide) ⟨congrArg (fun z => some (Value.int z)) hv.symm, N18, e18⟩
theorem own_same (v : Int32) : own_F1 v = own_F2 v := by
  have l1 : (56320 : Int32).toInt = 56320 := by decide
  have l2 : (56575 : Int32).toInt = 56575 := by decide
  have l3 : (220 : Int32).toInt = 220 := by decide
  have s := c_ishr v (8 : Int32) 8 (by decide)
  have e8 : ((2 ^ 8 : Nat) : Int) = 256 := by decide
  rw [e8] at s
  unfold own_F1 own_F2
  simp only [Int32.lt_iff_toInt_lt, ← Int32.toInt_inj (x := v >>> ((8 : Int32) &&& 31)), l1, l2, l3, s]
  repeat' split
  all_goals first | rfl | (exfalso; omega)
theorem own_in (v : Int32) : own_F1 (own_F3 v) = 1 := by
  have l1 : (56320 : Int32).toInt = 56320 := by decide
  have l2 : (56575 : Int32).toInt = 56575 := by decide
  have m := c_mask v (255 : Int32) 8 (by decide) (by decide)
  have e8 : ((2 ^ 8 : Nat) : Int) = 256 := by decide
  rw [e8] at m
  have a := c_iadd (56320 : Int32) (v &&& 255)
  have c := c_i2c ((56320 : Int32) + (v &&& 255))
  have c2 := c_i2c (((56320 : Int32) + (v &&& 255)).toUInt32.toUInt16.toUInt32.toInt32)
  have r := rng32 ((56320 : Int32) + (v &&& 255))
  rw [l1] at a
  unfold own_F1 own_F3 own_F4
  show (if (((56320 : Int32) + (v &&& 255)).toUInt32.toUInt16.toUInt32.toInt32).toUInt32.toUInt16.toUInt32.toInt32 < (56320 : Int32) then (0 : Int32) else (if (56575 : Int32) < (((56320 : Int32) + (v &&& 255)).toUInt32.toUInt16.toUInt32.toInt32).toUInt32.toUInt16.toUInt32.toInt32 then (0 : Int32) else (1 : Int32))) = 1
  rw [if_neg (by rw [Int32.lt_iff_toInt_lt, l1]; omega), if_neg (by rw [Int32.lt_iff_toInt_lt, l2]; omega)]
theorem own_plain (p0 p1 : Int32) : own_F0 p0 p1 = 1 := by
  unfold own_F0
  rw [if_pos (own_same _), if_pos (own_same _), own_in, if_neg (by decide)]
set_option maxRecDepth 65536 in
set_option maxHeartbeats 40000000 in
theorem comes_1 {Post : Tables → Env → Array Value → State → Outcome → State → Prop} (hpost : ∀ tb e args s v u, (limb_1_1.after args s (.returned v) u = true ∧ limb_1_2.after args s (.returned v) u = true ∧ True) → FrameEnd s (.returned v) u (Jvm.fieldLocs frame_1_writes args s ++ Jvm.arrayLocs frame_1_arrays args s ++ Jvm.staticLocs frame_1_statics s) 0 0 → Post tb e args s (.returned v) u) :
    ArmFor flags0 classFile x code maxLocals ret World_1 tables_1 room_1 Calls_1 rest_1 Pre_1 Post := by
  intro l hfl _ _ p e ha hc hk s m args below hf hA hF happ hP
  obtain ⟨hcalls, hrest, hpre⟩ := hP
  obtain ⟨-, -, -, hnamed, -, -, -, hat⟩ := (Spec.applies_iff hf).mp happ
  obtain ⟨hg, hn⟩ := and_e (Cond.before_iff.mp (show (Jvm.Cond.and given_1 narrow_1).before args s = true from hpre))
  obtain ⟨g3, g4⟩ := and_e hg
  obtain ⟨g5, g6⟩ := and_e g4
  obtain ⟨w0, w1, rfl⟩ : ∃ w0 w1 : Value, args = #[w0, w1] := by
    have hs : args.size = 2 := by simpa [Cond.value, given_1] using g3
    obtain ⟨L⟩ := args
    match L, hs with
    | [w0, w1], _ => exact ⟨w0, w1, rfl⟩
  have hw := fun d (hd : d ∈ tables_1) => atoms_spec (ws := Jvm.Cond.code x code maxLocals ret :: tables_1) hat d (List.mem_cons_of_mem _ hd)
  obtain ⟨i0, ei0⟩ := is_v g5
  obtain rfl : w0 = (.int i0) := Option.some.inj ei0
  obtain ⟨i1, ei1⟩ := is_v g6
  obtain rfl : w1 = (.int i1) := Option.some.inj ei1
  obtain ⟨n, o, h1, h2, h3, v, L, rfl, ⟨hv, N, -⟩, hq⟩ := rm0 l s _ hw tables_1 i0 i1 s.heap s.heap.size (Nat.le_refl _) p e ha hc hk s m _ below hf ((Spec.applies_iff_loose hf).mp happ).1 ⟨rfl, State.Warmed39.refl s, rfl⟩ trivial
  rw [own_plain i0 i1] at hv
  subst hv
  refine ⟨n, _, h1, h2, h3, hpost _ _ _ _ _ _ ⟨Cond.after_iff.mpr rfl, Cond.after_iff.mpr (eq_i res_at (Term.int_eval (1)) rfl), trivial⟩ ⟨hq.1, hq.2.1, (hq.2.2.sift fun y hy => Or.inr (N y hy)).mono (by decide) (by decide)⟩⟩
theorem main_1_1 : Claimed_1_1 := comes_1 fun _ _ _ _ _ _ h hF => ⟨h.1, hF⟩
theorem main_1_2 : Claimed_1_2 := comes_1 fun _ _ _ _ _ _ h hF => ⟨h.2.1, hF⟩
end Jvm.Pilot.@@N@@
namespace Jvm.Pilot.@@N@@
open Jvm Jvm.ClassFile Sem Op Lib Jvm.Free Jvm.Stand Jvm.Pilot.@@N@@.Jvm.D
/-! MADE BY PROGRAM (witnessworld.py) out of the Statement's table words and the real class files: 13 classes; the members and pool entries that the words name. The judged class is class 1, her method 2. -/
namespace start1
open Jvm.ClassFile
def u (s : String) : CpInfo := .utf8 (stringToUtf16 s)
/-- a pool by its gaps: so many unusable entries, then the entry; so many at the end -/
def gap : Nat → List CpInfo → List CpInfo
  | 0, r => r
  | n + 1, r => .unusable :: gap n r
def poolList (es : List (Nat × CpInfo)) (last : Nat) : List CpInfo := es.foldr (fun e r => gap e.1 (e.2 :: r)) (gap last [])
def pool (es : List (Nat × CpInfo)) (last : Nat) : Array CpInfo := ⟨poolList es last⟩
def fileOf (pool : Array CpInfo) (this : Nat) (attrs : Array Attribute := #[]) (ms : Array MethodInfo := #[]) (fl : Nat := 33) (sup : Nat := 0) (ifs : Array Nat := #[]) (fds : Array FieldInfo := #[]) : ClassFile where
  minorVersion := 0
  majorVersion := 65
  constantPool := pool
  accessFlags := fl
  thisClass := this
  superClass := sup
  interfaces := ifs
  fields := fds
  methods := ms
  attributes := attrs
def plain (name : String) (sup : Option ClassId) : Class where
  name := name
  kind := .ordinary
  loader := none
  accessFlags := 33
  super := sup
  interfaces := #[]
  cf := none
  fields := #[]
  methods := #[]
  instanceTypes := #[]
  staticTypes := #[]
  resolved := #[]
  callSites := []
  init := .initialized
  statics := none
  mirror := none

def pool0 : Array CpInfo := pool [(5, u "<init>"), (0, u "()V"), (1, .class_ 10), (1, u "java/lang/Object")] 113

def k0m0 : Method := { name := "<init>", desc := "()V", sig := { parameters := [], returnType := none }, accessFlags := 1, code := none }
/-- java/lang/Object -/
def k0 : Class := { plain "java/lang/Object" none with
  accessFlags := 33
  interfaces := #[]
  cf := some (fileOf pool0 8 #[] #[{ accessFlags := 1, nameIndex := 5, descriptorIndex := 6, attributes := #[] }] 33 0 #[] #[])
  fields := #[]
  methods := #[k0m0]
  instanceTypes := #[]
  staticTypes := #[]
  resolved := Array.replicate 124 none
  statics := none }

def pool1 : Array CpInfo := pool [(2, .class_ 4), (1, u "java/lang/Object"), (0, u "<init>"), (0, u "()V"), (0, .methodref 8 9), (0, .class_ 10), (0, .nameAndType 11 12), (0, u "org/forwardtrace/model/UndecodedByte"), (0, u "isStandIn"), (0, u "(I)Z"), (0, .methodref 14 15), (0, .class_ 16), (0, .nameAndType 17 12), (0, u "org/forwardtrace/model/UndecodedByteIsStandInPinLaw"), (0, u "inBlock"), (0, .integer 56304), (0, .methodref 8 20), (0, .nameAndType 21 22), (0, u "standIn"), (0, u "(B)C"), (3, u "law"), (0, u "(II)Z")] 2

def k1m0 : Method := { name := "<init>", desc := "()V", sig := { parameters := [], returnType := none }, accessFlags := 2, code := none }
def k1c1 : Code := { maxStack := 2, maxLocals := 1, code := method_2_code, exceptionTable := #[], attributes := #[] }
def k1m1 : Method := { name := "inBlock", desc := "(I)Z", sig := { parameters := [.int], returnType := some .boolean }, accessFlags := 10, code := some k1c1 }
def k1c2 : Code := { maxStack := 3, maxLocals := 7, code := code, exceptionTable := #[], attributes := #[] }
def k1m2 : Method := { name := "law", desc := "(II)Z", sig := { parameters := [.int, .int], returnType := some .boolean }, accessFlags := 9, code := some k1c2 }
/-- org/forwardtrace/model/UndecodedByteIsStandInPinLaw -/
def k1 : Class := { plain "org/forwardtrace/model/UndecodedByteIsStandInPinLaw" (some 0) with
  accessFlags := 49
  interfaces := #[]
  cf := some (fileOf pool1 14 #[] #[{ accessFlags := 2, nameIndex := 5, descriptorIndex := 6, attributes := #[] }, { accessFlags := 10, nameIndex := 17, descriptorIndex := 12, attributes := #[] }, { accessFlags := 9, nameIndex := 26, descriptorIndex := 27, attributes := #[] }] 49 2 #[] #[])
  fields := #[]
  methods := #[k1m0, k1m1, k1m2]
  instanceTypes := #[]
  staticTypes := #[]
  resolved := Array.replicate 30 none
  statics := none }

def pool2 : Array CpInfo := pool [(2, .class_ 4), (1, u "java/lang/Object"), (0, u "<init>"), (0, u "()V"), (0, .class_ 8), (0, u "org/forwardtrace/model/UndecodedByte"), (0, .integer 56320), (0, .methodref 11 12), (0, .class_ 13), (0, .nameAndType 14 15), (0, u "java/lang/Byte"), (0, u "toUnsignedInt"), (0, u "(B)I"), (0, .integer 56575), (0, u "FIRST"), (0, u "C"), (3, u "standIn"), (0, u "(B)C"), (0, u "isStandIn"), (0, u "(I)Z")] 5

def k2m0 : Method := { name := "<init>", desc := "()V", sig := { parameters := [], returnType := none }, accessFlags := 2, code := none }
def k2c1 : Code := { maxStack := 2, maxLocals := 1, code := prog_16_method_2_code, exceptionTable := #[], attributes := #[] }
def k2m1 : Method := { name := "standIn", desc := "(B)C", sig := { parameters := [.byte], returnType := some .char }, accessFlags := 9, code := some k2c1 }
def k2c2 : Code := { maxStack := 2, maxLocals := 1, code := prog_16_method_3_code, exceptionTable := #[], attributes := #[] }
def k2m2 : Method := { name := "isStandIn", desc := "(I)Z", sig := { parameters := [.int], returnType := some .boolean }, accessFlags := 9, code := some k2c2 }
/-- org/forwardtrace/model/UndecodedByte -/
def k2 : Class := { plain "org/forwardtrace/model/UndecodedByte" (some 0) with
  accessFlags := 49
  interfaces := #[]
  cf := some (fileOf pool2 7 #[] #[{ accessFlags := 2, nameIndex := 5, descriptorIndex := 6, attributes := #[] }, { accessFlags := 9, nameIndex := 22, descriptorIndex := 23, attributes := #[] }, { accessFlags := 9, nameIndex := 24, descriptorIndex := 25, attributes := #[] }] 49 2 #[] #[{ accessFlags := 26, nameIndex := 17, descriptorIndex := 18, attributes := #[] }])
  fields := #[{ name := "FIRST", type := .char, accessFlags := 26, slot := 0, constantValue := 0 }]
  methods := #[k2m0, k2m1, k2m2]
  instanceTypes := #[]
  staticTypes := #[.char]
  resolved := Array.replicate 31 none
  statics := none }

def pool3 : Array CpInfo := pool [(1, .class_ 2), (0, u "java/io/Serializable"), (0, .class_ 4), (0, u "java/lang/Object")] 2

/-- java/io/Serializable -/
def k3 : Class := { plain "java/io/Serializable" (some 0) with
  accessFlags := 1537
  interfaces := #[]
  cf := some (fileOf pool3 1 #[] #[] 1537 3 #[] #[])
  fields := #[]
  methods := #[]
  instanceTypes := #[]
  staticTypes := #[]
  resolved := Array.replicate 7 none
  statics := none }

def pool4 : Array CpInfo := pool [(2, .class_ 4), (1, u "java/lang/Object"), (0, u "<init>"), (0, u "()V"), (1, .class_ 10), (1, u "java/lang/Number"), (2, .class_ 14), (0, u "java/io/Serializable"), (0, u "serialVersionUID"), (0, u "J")] 20

def k4m0 : Method := { name := "<init>", desc := "()V", sig := { parameters := [], returnType := none }, accessFlags := 1, code := none }
/-- java/lang/Number -/
def k4 : Class := { plain "java/lang/Number" (some 0) with
  accessFlags := 1057
  interfaces := #[3]
  cf := some (fileOf pool4 8 #[] #[{ accessFlags := 1, nameIndex := 5, descriptorIndex := 6, attributes := #[] }] 1057 2 #[13] #[{ accessFlags := 26, nameIndex := 15, descriptorIndex := 16, attributes := #[] }])
  fields := #[{ name := "serialVersionUID", type := .long, accessFlags := 26, slot := 0, constantValue := 0 }]
  methods := #[k4m0]
  instanceTypes := #[]
  staticTypes := #[.long]
  resolved := Array.replicate 37 none
  statics := none }

def pool5 : Array CpInfo := pool [(1, .class_ 2), (0, u "java/lang/Comparable"), (0, .class_ 4), (0, u "java/lang/Object")] 7

/-- java/lang/Comparable -/
def k5 : Class := { plain "java/lang/Comparable" (some 0) with
  accessFlags := 1537
  interfaces := #[]
  cf := some (fileOf pool5 1 #[] #[] 1537 3 #[] #[])
  fields := #[]
  methods := #[]
  instanceTypes := #[]
  staticTypes := #[]
  resolved := Array.replicate 12 none
  statics := none }

def pool6 : Array CpInfo := pool [(1, .class_ 2), (0, u "java/lang/constant/Constable"), (0, .class_ 4), (0, u "java/lang/Object")] 6

/-- java/lang/constant/Constable -/
def k6 : Class := { plain "java/lang/constant/Constable" (some 0) with
  accessFlags := 1537
  interfaces := #[]
  cf := some (fileOf pool6 1 #[] #[] 1537 3 #[] #[])
  fields := #[]
  methods := #[]
  instanceTypes := #[]
  staticTypes := #[]
  resolved := Array.replicate 11 none
  statics := none }

def pool7 : Array CpInfo := pool [(1, .class_ 2), (0, u "java/lang/Byte"), (41, .class_ 46), (1, u "java/lang/Byte$ByteCache"), (51, .class_ 99), (0, u "java/lang/Number"), (2, u "value"), (0, u "B"), (3, u "(B)I"), (10, u "toUnsignedInt"), (16, u "TYPE"), (0, u "Ljava/lang/Class;"), (0, .class_ 138), (0, u "java/lang/Comparable"), (0, .class_ 140), (0, u "java/lang/constant/Constable"), (0, u "MIN_VALUE"), (2, u "MAX_VALUE"), (3, u "SIZE"), (0, u "I"), (1, u "BYTES"), (1, u "serialVersionUID"), (0, u "J")] 58

def k7c0 : Code := { maxStack := 2, maxLocals := 1, code := jdk_2056_method_24_code, exceptionTable := #[], attributes := #[] }
def k7m0 : Method := { name := "toUnsignedInt", desc := "(B)I", sig := { parameters := [.byte], returnType := some .int }, accessFlags := 9, code := some k7c0 }
/-- java/lang/Byte -/
def k7 : Class := { plain "java/lang/Byte" (some 4) with
  accessFlags := 49
  interfaces := #[5, 6]
  cf := some (fileOf pool7 1 #[.nestMembers #[44]] #[{ accessFlags := 9, nameIndex := 118, descriptorIndex := 107, attributes := #[] }] 49 98 #[137, 139] #[{ accessFlags := 25, nameIndex := 141, descriptorIndex := 103, attributes := #[] }, { accessFlags := 25, nameIndex := 144, descriptorIndex := 103, attributes := #[] }, { accessFlags := 25, nameIndex := 135, descriptorIndex := 136, attributes := #[] }, { accessFlags := 18, nameIndex := 102, descriptorIndex := 103, attributes := #[] }, { accessFlags := 25, nameIndex := 148, descriptorIndex := 149, attributes := #[] }, { accessFlags := 25, nameIndex := 151, descriptorIndex := 149, attributes := #[] }, { accessFlags := 26, nameIndex := 153, descriptorIndex := 154, attributes := #[] }])
  fields := #[{ name := "MIN_VALUE", type := .byte, accessFlags := 25, slot := 0, constantValue := 0 }, { name := "MAX_VALUE", type := .byte, accessFlags := 25, slot := 1, constantValue := 0 }, { name := "TYPE", type := (.object "java/lang/Class"), accessFlags := 25, slot := 2, constantValue := 0 }, { name := "value", type := .byte, accessFlags := 18, slot := 0, constantValue := 0 }, { name := "SIZE", type := .int, accessFlags := 25, slot := 3, constantValue := 0 }, { name := "BYTES", type := .int, accessFlags := 25, slot := 4, constantValue := 0 }, { name := "serialVersionUID", type := .long, accessFlags := 26, slot := 5, constantValue := 0 }]
  methods := #[k7m0]
  instanceTypes := #[.byte]
  staticTypes := #[.byte, .byte, (.object "java/lang/Class"), .int, .int, .long]
  resolved := Array.replicate 213 none
  statics := none }

def pool8 : Array CpInfo := pool [(1, u "java/lang/Cloneable"), (0, .class_ 1), (0, u "java/lang/Object"), (0, .class_ 3)] 3

/-- java/lang/Cloneable -/
def k8 : Class := { plain "java/lang/Cloneable" (some 0) with
  accessFlags := 1537
  interfaces := #[]
  cf := some (fileOf pool8 2 #[] #[] 1537 4 #[] #[])
  fields := #[]
  methods := #[]
  instanceTypes := #[]
  staticTypes := #[]
  resolved := Array.replicate 8 none
  statics := none }

/-- the primitive byte -/
def k9 : Class := { plain "byte" none with kind := .primitive 'B', accessFlags := 0x411 }
/-- [B -/
def k10 : Class := { plain "[B" (some 0) with kind := .array 9 .byte, interfaces := #[8, 3], accessFlags := 1041 }

/-- the primitive int -/
def k11 : Class := { plain "int" none with kind := .primitive 'I', accessFlags := 0x411 }
/-- [I -/
def k12 : Class := { plain "[I" (some 0) with kind := .array 11 .int, interfaces := #[8, 3], accessFlags := 1041 }

def heap : Heap := #[]
def classes : Array Class := #[k0, k1, k2, k3, k4, k5, k6, k7, k8, k9, k10, k11, k12]
def interned : List (Array UInt16 × Addr) := []
def slotsUsed : Nat := 0
def theMethod : MethodId := ⟨1, 2⟩
def args0 : Array Value := #[.int 5, .int 0]
def aboutOver (below : List Frame) : State where
  vm := { classes := classes, interned := interned.toArray }
  heap := heap
  slotsUsed := slotsUsed
  threads := #[{ frames := .invoking theMethod args0 :: below }]
def below0 : List Frame := [.native { method := ⟨0, 0⟩, args := #[] }]
def about1 : State := aboutOver below0
def p0 : Program := .bare "" "" ""
def e0 : Env := launch0.env 0 0 0
theorem w_frames : about1.frames = Frame.invoking theMethod args0 :: below0 := rfl
set_option maxRecDepth 65536 in
theorem w_args : argsFit about1.vm theMethod args0 = true := by decide +kernel
set_option maxRecDepth 65536 in
theorem w_heap : heapFits about1 = true := by decide +kernel
set_option maxRecDepth 65536 in
theorem w_runnable : about1.curStatus? = some .runnable := by decide +kernel
set_option maxRecDepth 65536 in
theorem w_alone : about1.alone = true := by decide +kernel
set_option maxRecDepth 65536 in
theorem w_named : about1.methodNamed? x = some theMethod := by decide +kernel
set_option maxRecDepth 65536 in
theorem w_hears : about1.hears theMethod below0 = true := by decide +kernel
set_option maxRecDepth 65536 in
theorem w_ripe : about1.ripe theMethod args0 below0 = true := by decide +kernel
theorem w_running : about1.status = .running := rfl
set_option maxRecDepth 65536 in
theorem w_room : about1.hasRoom e0.platform room_1 = true :=
  launch0.hasRoom_least _ room_1 (by decide +kernel) (by decide +kernel) (by decide +kernel) (by decide +kernel) (by decide +kernel) (by decide +kernel)
theorem allAtoms_all (ts : List Jvm.Cond) (a : Array Jvm.Value) (st : Jvm.State) : (allAtoms ts).before a st = ts.all (fun c => c.before a st) := by
  induction ts with
  | nil => rfl
  | cons c t ih =>
    show (Jvm.Cond.and c (allAtoms t)).before a st = _
    rw [Jvm.Cond.before_and, ih, List.all_cons]
def words1 : List Jvm.Cond := Jvm.Cond.code x code maxLocals ret :: tables_1
/-- a 'code' word, met by the world's own term for the bytes: nothing is compared byte by byte -/
theorem code_word {y : MethodName} {bytes : ByteArray} {mx : Nat} {rt : Option FieldType} {a : Array Value} {s : State} {m : MethodId} {meth : Method} {c : Code} (h1 : s.methodNamed? y = some m) (h2 : s.vm.method? m = some meth) (h3 : meth.code = some c) (h4 : c.code = bytes)
    (h5 : (c.maxLocals == mx && c.exceptionTable.isEmpty && decide (c.maxStack ≤ mostOperands) && decide (meth.sig.returnType = rt) && !meth.locks && decide (parseMethodDescriptor y.desc = some meth.sig)) = true) : (Jvm.Cond.code y bytes mx rt).before a s = true := by
  simp only [Bool.and_eq_true, beq_iff_eq, Bool.not_eq_true', decide_eq_true_eq] at h5
  obtain ⟨⟨⟨⟨⟨g1, g2⟩, g3⟩, g4⟩, g5⟩, g6⟩ := h5
  simp [Cond.before, Cond.holds, Cond.value, h1, h2, h3, h4, g1, g2, g3, g4, g5, g6]
def isCode : Jvm.Cond → Bool
  | .code _ _ _ _ => true
  | _ => false
theorem all_split {L : List Jvm.Cond} {P : Jvm.Cond → Bool} (h1 : L.all (fun c => isCode c || P c) = true) (h2 : ∀ c ∈ L.filter isCode, P c = true) : L.all P = true := by
  refine List.all_eq_true.mpr fun c hc => ?_
  have h := List.all_eq_true.mp h1 c hc
  rcases Bool.eq_false_or_eq_true (isCode c) with hi | hi
  · exact h2 c (List.mem_filter.mpr ⟨hc, hi⟩)
  · simpa [hi] using h
set_option maxRecDepth 65536 in
theorem w_c0 : (Jvm.Cond.code x code maxLocals ret).before args0 about1 = true := code_word (m := ⟨1, 2⟩) (meth := k1m2) (c := k1c2) (by decide +kernel) rfl rfl rfl (by decide +kernel)
set_option maxRecDepth 65536 in
theorem w_c1 : (Jvm.Cond.code ({ cls := "org/forwardtrace/model/UndecodedByte", name := "isStandIn", desc := "(I)Z" } : Jvm.MethodName) prog_16_method_3_code (1 : Nat) (Option.some Jvm.ClassFile.FieldType.boolean)).before args0 about1 = true := code_word (m := ⟨2, 2⟩) (meth := k2m2) (c := k2c2) (by decide +kernel) rfl rfl rfl (by decide +kernel)
set_option maxRecDepth 65536 in
theorem w_c2 : (Jvm.Cond.code ({ cls := "org/forwardtrace/model/UndecodedByteIsStandInPinLaw", name := "inBlock", desc := "(I)Z" } : Jvm.MethodName) method_2_code (1 : Nat) (Option.some Jvm.ClassFile.FieldType.boolean)).before args0 about1 = true := code_word (m := ⟨1, 1⟩) (meth := k1m1) (c := k1c1) (by decide +kernel) rfl rfl rfl (by decide +kernel)
set_option maxRecDepth 65536 in
theorem w_c3 : (Jvm.Cond.code ({ cls := "org/forwardtrace/model/UndecodedByte", name := "standIn", desc := "(B)C" } : Jvm.MethodName) prog_16_method_2_code (1 : Nat) (Option.some Jvm.ClassFile.FieldType.char)).before args0 about1 = true := code_word (m := ⟨2, 1⟩) (meth := k2m1) (c := k2c1) (by decide +kernel) rfl rfl rfl (by decide +kernel)
set_option maxRecDepth 65536 in
theorem w_c4 : (Jvm.Cond.code ({ cls := "java/lang/Byte", name := "toUnsignedInt", desc := "(B)I" } : Jvm.MethodName) jdk_2056_method_24_code (1 : Nat) (Option.some Jvm.ClassFile.FieldType.int)).before args0 about1 = true := code_word (m := ⟨7, 0⟩) (meth := k7m0) (c := k7c0) (by decide +kernel) rfl rfl rfl (by decide +kernel)
def codes1 : List Jvm.Cond := [Jvm.Cond.code x code maxLocals ret, Jvm.Cond.code ({ cls := "org/forwardtrace/model/UndecodedByte", name := "isStandIn", desc := "(I)Z" } : Jvm.MethodName) prog_16_method_3_code (1 : Nat) (Option.some Jvm.ClassFile.FieldType.boolean), Jvm.Cond.code ({ cls := "org/forwardtrace/model/UndecodedByteIsStandInPinLaw", name := "inBlock", desc := "(I)Z" } : Jvm.MethodName) method_2_code (1 : Nat) (Option.some Jvm.ClassFile.FieldType.boolean), Jvm.Cond.code ({ cls := "org/forwardtrace/model/UndecodedByte", name := "standIn", desc := "(B)C" } : Jvm.MethodName) prog_16_method_2_code (1 : Nat) (Option.some Jvm.ClassFile.FieldType.char), Jvm.Cond.code ({ cls := "java/lang/Byte", name := "toUnsignedInt", desc := "(B)I" } : Jvm.MethodName) jdk_2056_method_24_code (1 : Nat) (Option.some Jvm.ClassFile.FieldType.int)]
set_option maxRecDepth 65536 in
theorem codes_eq : words1.filter isCode = codes1 := rfl
theorem w_codes : ∀ c ∈ words1.filter isCode, c.before args0 about1 = true := by
  rw [codes_eq]
  intro c hc
  simp only [codes1, List.mem_cons, List.not_mem_nil, or_false] at hc
  rcases hc with rfl | rfl | rfl | rfl | rfl
  · exact w_c0
  · exact w_c1
  · exact w_c2
  · exact w_c3
  · exact w_c4
set_option maxRecDepth 65536 in
theorem w_t1 : words1.all (fun c => isCode c || c.before args0 about1) = true := by decide +kernel
theorem w_tables : (allAtoms (Jvm.Cond.code x code maxLocals ret :: tables_1)).before args0 about1 = true := by
  rw [allAtoms_all]
  show words1.all (fun c => c.before args0 about1) = true
  refine all_split ?_ w_codes
  rw [w_t1]
set_option maxRecDepth 65536 in
theorem w_case : (Jvm.Cond.and given_1 narrow_1).before args0 about1 = true := by decide +kernel
theorem w_applies : (headSpec (Jvm.Cond.code x code maxLocals ret :: tables_1) room_1).applies x e0.platform about1 = true :=
  (Spec.applies_iff w_frames).mpr ⟨w_running, w_runnable, w_alone, w_named, w_hears, w_ripe, w_room, w_tables⟩
theorem atStart : AtStart classFile x code maxLocals ret World_1 tables_1 room_1 Calls_1 rest_1 Pre_1 launch0 p0 e0 about1 theMethod args0 below0 :=
  ⟨lists_1, trivial, launch0.admits_env _ _ _, launch0.least_env, fairChoices_fair.cas, fairChoices_fair.clock, w_frames, w_args, w_heap, w_applies, trivial, trivial, w_case⟩
end start1
theorem witness_1 : WitnessClaimed_1 := ⟨start1.p0, start1.e0, start1.about1, start1.theMethod, start1.args0, start1.below0, start1.atStart⟩
end Jvm.Pilot.@@N@@
